import PyProof.Rows.All
import Wide.All
import OpenK.AllK
import Wide.FinOn
import Lean
import PySem.Challenge.RW_zr0001_01
open PySem PySem.W PyProof.Rows
set_option Elab.async false
namespace Mine
set_option maxRecDepth 100000 in
set_option maxHeartbeats 8000000 in
open_top hd for PySem.Challenge.rw_zr0001_01
end Mine
open PySem.Calls
set_option maxRecDepth 100000

namespace Mine
abbrev PG : Program := PySem.Challenge.rw_zr0001_01.row.prog
noncomputable abbrev KK (w : World) : Frag := hd.heap_39 w.params
abbrev Ext (h h' : Heap) : Prop := ∀ b o, h.get? b = some o → h'.get? b = some o

structure Gd (w : World) (h : Heap) : Prop where
  X : (KK w).In h
  g : ∃ mg, h.Ns mainGlobals mg
  b : ∃ mb, h.Ns builtinsNs mb ∧ ∀ x : Str, x ≠ "__name__" → mb x = bootBuiltins x
  lim : h.NoLimit

theorem Gd.ext {w : World} {h h' : Heap} (G : Gd w h) (k : Ext h h') : Gd w h' :=
  ⟨G.X.keeps k, let ⟨mg, t⟩ := G.g; ⟨mg, t.keeps k⟩, let ⟨mb, t, r⟩ := G.b; ⟨mb, t.keeps k, r⟩, G.lim.keeps k⟩

structure Ok (A : Around) (k : Nat) : Prop where
  hh : A.handled = none
  dp : A.depth + k < recursionLimit
  un : A.units + 8 * k + 100 < cLine

theorem Ok.deeper {A : Around} {k : Nat} {env : Env} (o : Ok A (k + 1)) : Ok (A.deeper env) k :=
  ⟨o.hh, by have := o.dp; show A.depth + 1 + k < recursionLimit; omega, by have := o.un; show A.units + 3 + 8 * k + 100 < cLine; omega⟩
theorem Ok.in1 {A : Around} {k : Nat} (o : Ok A (k + 1)) : Ok A.in1 k :=
  ⟨o.hh, by have := o.dp; show A.depth + k < recursionLimit; omega, by have := o.un; show A.units + 1 + 8 * k + 100 < cLine; omega⟩
theorem Ok.mono {A : Around} {k k' : Nat} (o : Ok A k) (h : k' ≤ k) : Ok A k' :=
  ⟨o.hh, by have := o.dp; omega, by have := o.un; omega⟩

/-- a plain def called: no cells -/
theorem callD {w : World} {A : Around} {s : Shared} {R : Result → Shared → Prop} {f : Addr} {o : Obj} {name qual : Str} {params : Arguments} {body : List Stmt} {scope : Scope} {dV kV doc pm cdv ct : Value} {an : Option Addr} {args : Args} {binds : List (Str × Value)}
    (ho : s.heap.get? f = some o) (hd : o.data = .func (fnOf name qual params body scope dV kV doc pm an cdv ct))
    (hlim : s.heap.NoLimit) (hroom : A.depth < recursionLimit) (hcd : s.heap.CodeRec cdv qual)
    (hbind : BindsTo s (fnOf name qual params body scope dV kV doc pm an cdv ct) args binds)
    (hloc : ∀ y ∈ binds, scope.names.lookup y.1 = some .local) (hcell : ∀ x ∈ scope.names, x.2 ≠ .cell)
    (h : ∀ h₁, Fr s.heap s.heap.objs.size h₁ (fun x => binds.reverse.lookup x) →
      wpAny (model PG w) (A.deeper (envOf qual scope s.heap.objs.size f cdv)) (execs body (envOf qual scope s.heap.objs.size f cdv))
        (fun f s' => R (.ok (.ret (match f with | .ret v => v | _ => .none))) s') (fun _ _ => False)
        { s with heap := h₁, toks := s.toks + binds.length })
    (hco : scope.isCoroutine = false := by rfl) (hgen : scope.isGenerator = false := by rfl) (hk : scope.kind = .function := by rfl) :
    codeAny (model PG w) A (.call (.ref f) args) R s :=
  codeAny_call_def (fd := fnOf name qual params body scope dV kV doc pm an cdv ct) hroom ho hd hlim hcd rfl hbind hcell hloc
    (fun h₁ hn hk => wpAny_mono (h h₁ ⟨hn, hk, Nat.le_refl _⟩) (fun _ _ x => x) (fun _ _ x => x.elim)) hco hgen hk

theorem gname {w : World} {M : Model} {A : Around} {E : Value → Shared → Prop} {s : Shared} {L a : Addr} {cn : Str} {cs : Scope} {ccd : Value} {cl : List (Str × Addr)} {x : Str} {pos : Pos} {v : Value} {Q : Value → Shared → Prop}
    (G : Gd w s.heap) (e : nsIn (KK w) mainGlobals x = some (some v)) (h : Q v s)
    (hk : cs.kind = .function := by rfl) (hx : (envX cn cs L a ccd cl).kindOf x = some .globalImplicit := by rfl) (hd : (x == ("__debug__" : Str)) = false := by decide) :
    wpAny M A (eval (.Name x pos) (envX cn cs L a ccd cl)) Q E s := by
  obtain ⟨mg, g⟩ := G.g
  exact Name_function_global hk hx (loadGlobal_global (env := envX cn cs L a ccd cl) g (mg_of G.X g e) h) hd

theorem bname {w : World} {M : Model} {A : Around} {E : Value → Shared → Prop} {s : Shared} {L a : Addr} {cn : Str} {cs : Scope} {ccd : Value} {cl : List (Str × Addr)} {x : Str} {pos : Pos} {v : Value} {Q : Value → Shared → Prop}
    (G : Gd w s.heap) (e : nsIn (KK w) mainGlobals x = some none) (hv : bootBuiltins x = some v) (hn : x ≠ "__name__") (h : Q v s)
    (hk : cs.kind = .function := by rfl) (hx : (envX cn cs L a ccd cl).kindOf x = some .globalImplicit := by rfl) (hd : (x == ("__debug__" : Str)) = false := by decide) :
    wpAny M A (eval (.Name x pos) (envX cn cs L a ccd cl)) Q E s := by
  obtain ⟨mg, g⟩ := G.g
  obtain ⟨mb, b, r⟩ := G.b
  exact Name_function_global hk hx (loadGlobal_builtin (env := envX cn cs L a ccd cl) g (mg_none_of G.X g e) b ((r x hn).trans hv) h) hd

end Mine

namespace Mine
/-- a bracket word: true is an open one -/
def bc (b : Bool) : Nat := if b then 40 else 41
def bw (l : List Bool) : Str := ⟨(l.map bc).toArray⟩
def bu (b : Bool) : UInt8 := if b then 40 else 41
def by_ (l : List Bool) : Array UInt8 := (l.map bu).toArray

theorem forIn_once {β : Type} {f : Nat → β → Sem (ForInStep β)} {a b : β} (h0 : ∀ x, f x a = pure (.yield b)) (h1 : ∀ x, f x b = pure (.done b)) (n : Nat) (hn : 0 < n) :
    (forIn (List.range' 0 n) a f : Sem β) = pure b := by
  match n, hn with
  | 1, _ => simp only [List.range', List.forIn_cons, h0]; rfl
  | n + 2, _ => simp only [List.range', List.forIn_cons, h0]; show (Sem.bind (f (0 + 1) b) _) = _; rw [h1]; rfl

theorem bw_size (l : List Bool) : (bw l).cps.size = l.length := by simp [bw]
theorem bw_length (l : List Bool) : (bw l).length = l.length := bw_size l
theorem by_size (l : List Bool) : (by_ l).size = l.length := by simp [by_]
theorem bad_bc (b : Bool) : Builtin._codecs.asciiCodec.bad (bc b) = false := by cases b <;> rfl
theorem fold_by (l : List Bool) : ∀ (acc : Array UInt8), ((l.map bc).toArray).foldl (fun acc y => acc ++ (Builtin._codecs.asciiCodec.bytesOf y).toArray) acc = acc ++ by_ l := by
  intro acc
  rw [List.foldl_toArray]
  induction l generalizing acc with
  | nil => simp [by_]
  | cons b r ih =>
    rw [List.map_cons, List.foldl_cons, ih]
    cases b <;> simp [by_, bc, bu, Builtin._codecs.asciiCodec]

open Builtin Builtin._codecs in
theorem enc_narrow {M : Model} {A : Around} {E : Value → Shared → Prop} {s : Shared} {id : String} {self : Value} {l : List Bool} {Q : Array UInt8 → Shared → Prop}
   (hl : l.length ≤ sizeLine) (h : Q (by_ l) s) : wpAny M A (encodeNarrow id asciiCodec none self (bw l)) Q E s := by
  unfold encodeNarrow
  dsimp only
  simp only [Std.Legacy.Range.forIn_eq_forIn_range']
  cases l with
  | nil => simp only [bw_length, List.length_nil, Std.Legacy.Range.size, Nat.sub_self]; simp; exact wpAny_pure h
  | cons b r =>
    rw [forIn_once (b := ((b :: r).length, by_ (b :: r), {}))]
    · exact wpAny_pure h
    · intro x
      have e1 : (bw (b :: r)).cps[0]? = some (bc b) := by simp [bw]
      have e2 : (bw (b :: r)).cps.extract 0 = (bw (b :: r)).cps := by simp
      have e3 : (bw (b :: r)).cps.findIdx? asciiCodec.bad = none := by
        simp only [bw, List.findIdx?_toArray, List.findIdx?_eq_none_iff]
        intro y hy
        obtain ⟨c, _, rfl⟩ := List.mem_map.mp hy
        exact bad_bc c
      simp only [e1, bad_bc, e2, e3]
      have e4 := fold_by (b :: r) #[]
      have e5 : (bw (b :: r)).cps = ((b :: r).map bc).toArray := rfl
      have e6 : ((b :: r).map bc).toArray.extract 0 (((b :: r).map bc).toArray).size = ((b :: r).map bc).toArray := Array.extract_size
      have e7 : ((b :: r).map bc).toArray.size = (b :: r).length := by simp
      simp only [Option.getD_none, e5, e6, e4]
      rw [if_neg (by decide)]
      simp only [Bool.not_false, if_true, e7, Nat.zero_add, Array.empty_append]
    · intro x
      have e1 : (bw (b :: r)).cps[(b :: r).length]? = none := by simp [bw]
      simp only [e1]
      rw [if_neg (by rw [by_size]; exact Nat.not_lt.mpr hl)]
    · simp [Std.Legacy.Range.size, bw_length]

open Builtin Builtin._codecs in
theorem str_encode {w : World} {A : Around} {E : Value → Shared → Prop} {s : Shared} {t u : Tok} {l : List Bool} {Q : Value → Shared → Prop}
   (hl : l.length ≤ sizeLine) (h : Q (.bytes (by_ l) s.toks) { s with toks := s.toks + 1 }) :
    wpAny (model PG w) A (call (.builtin "str.encode") [.str (bw l) t, .str (Str.ofString "ascii") u]) Q E s := by
  refine wpAny_call_entry F.slot_str_encode (typeIs_str _ _ _) F.entry_str_encode ?_ (F.args_str_encode_2 _ _)
  have e : Builtin.«str.encode» ⟨[.str (bw l) t, .str (Str.ofString "ascii") u], []⟩ = ((encodeNarrow "str.encode" asciiCodec none (.str (bw l) t) (bw l) >>= mkBytes) >>= ret) := by kernel_rfl
  rw [e]
  refine wpAny_bind (wpAny_bind (enc_narrow hl ?_))
  unfold mkBytes
  rw [if_neg (by rw [by_size]; exact Nat.not_lt.mpr hl)]
  exact wpAny_bind (wpAny_fresh (wpAny_pure (wpAny_pure ⟨_, rfl, h⟩)))
end Mine

namespace Mine
theorem lk_bytes_buffer : typeLookup (.type "bytes") "__buffer__" = pure (some (.builtin "bytes.__buffer__")) := by rw [typeLookup_type, builtinLookup_eq_fast]; kernel_rfl
theorem lk_bytes_release : typeLookup (.type "bytes") "__release_buffer__" = pure none := by rw [typeLookup_type, builtinLookup_eq_fast]; kernel_rfl
theorem lk_bytes_call : typeLookup (.type "bytes") "__call__" = pure none := by rw [typeLookup_type, builtinLookup_eq_fast]; kernel_rfl
theorem sub_bytes : isSubtype (.type "bytes") (.type "bytes") = pure true := by rw [isSubtype_type]; kernel_rfl
theorem slot_bytes_count : Slot "bytes" "count" "bytes.count" :=
  .of (owner := "bytes") (n := "count") (by rw [typeLookup_type, builtinLookup_eq_fast]; kernel_rfl) (by decide +kernel) (by decide +kernel) (by decide +kernel)
    (by decide +kernel) sub_bytes
theorem type_bytes_count : typeOf (.builtin "bytes.count") = pure (.type "method_descriptor") := by show builtinType _ = _; rw [builtinType_eq_fast]; kernel_rfl
theorem entry_bytes_count : entryFor table "bytes.count" = some Builtin.«bytes.count» := entryFor_of_tree (by kernel_rfl)
theorem args_bytes_count (a b : Value) : argsOk "bytes.count" ⟨[a, b], []⟩ := by
  unfold argsOk; rw [signature?_of (id := "bytes.count") (n := ['t', 'n', 'u', 'o', 'c']) (o := ['s', 'e', 't', 'y', 'b']) (by kernel_rfl) FB.owner_bytes]; kernel_rfl

section
variable {M : Model} {A : Around} {E : Value → Shared → Prop} {s : Shared} {x y : Array UInt8} {t u : Tok}
open Builtin.Bytes
theorem tb : s.TypeIs (.bytes x t) "bytes" := typeIs_bytes _ _ _
theorem slotOwn_buffer {Q : Bool → Shared → Prop} (h : Q true s) : wpAny M A (slotIsOwn (.bytes x t) "__buffer__") Q E s := by
  unfold slotIsOwn
  refine wpAny_bind (wpAny_specialOf tb lk_bytes_buffer ?_)
  dsimp only
  rw [show (!("bytes.__buffer__".endsWith ("." ++ "__buffer__"))) = false from by decide +kernel, if_neg Bool.false_ne_true]
  rw [show "bytes.__buffer__".dropRight ("__buffer__".length + 1) = "bytes" from by decide +kernel]
  exact wpAny_isInstance tb sub_bytes h
theorem ownRel {Q : Bool → Shared → Prop} (h : Q false s) : wpAny M A (ownRelease (.bytes x t)) Q E s := by
  unfold ownRelease slotIsOwn
  exact wpAny_bind (wpAny_bind (wpAny_specialOf tb lk_bytes_release (wpAny_pure (wpAny_pure h))))
theorem buf {id : String} {full : Bool} {Q : Option (Array UInt8) → Shared → Prop} (h : Q (some x) s) : wpAny M A (buffer? id (.bytes x t) full) Q E s := by
  unfold buffer?
  refine wpAny_bind (wpAny_specialOf tb lk_bytes_buffer ?_)
  dsimp only
  refine wpAny_bind (slotOwn_buffer ?_)
  rw [if_neg (by decide)]
  refine wpAny_bind (wpAny_specialOf tb lk_bytes_buffer ?_)
  refine wpAny_bind (ownRel ?_)
  rw [if_neg (by decide)]
  exact wpAny_bind (wpAny_pure (wpAny_pure h))
theorem bufQ {id : String} {Q : Option (Array UInt8) → Shared → Prop} (h : Q (some x) s) : wpAny M A (bufferQuiet? id (.bytes x t)) Q E s := by
  unfold bufferQuiet?
  exact wpAny_bind (wpAny_attempt (buf (wpAny_pure h)))
theorem pay {Q : Array UInt8 → Shared → Prop} (h : Q x s) : wpAny M A (payload (.bytes x t)) Q E s := by
  unfold payload payload?
  exact wpAny_bind (wpAny_pure (wpAny_pure h))

theorem by_ext (l : List Bool) (c : Bool) (i : Nat) (hi : i < l.length) : ((by_ l).extract i (i + 1) == #[bu c]) = (l[i] == c) := by
  have e : (by_ l).extract i (i + 1) = #[bu l[i]] := by
    apply Array.ext
    · simp [by_]; omega
    · intro j h1 h2
      have : j = 0 := by simp at h2; exact h2
      subst this
      simp [by_]
  rw [e]
  generalize l[i] = d
  cases d <;> cases c <;> decide

theorem occ_fold (l : List Bool) (c : Bool) : ∀ k, k ≤ l.length →
    ((((List.range k).map (· + 0)).foldl (fun (acc : List Nat × Nat) (i : Nat) => if (decide (i ≥ acc.2) && (by_ l).extract i (i + (#[bu c] : Array UInt8).size) == #[bu c]) = true then (i :: acc.1, i + (#[bu c] : Array UInt8).size) else acc) ([], 0)).1.length = (l.take k).count c) ∧
    (((List.range k).map (· + 0)).foldl (fun (acc : List Nat × Nat) (i : Nat) => if (decide (i ≥ acc.2) && (by_ l).extract i (i + (#[bu c] : Array UInt8).size) == #[bu c]) = true then (i :: acc.1, i + (#[bu c] : Array UInt8).size) else acc) ([], 0)).2 ≤ k := by
  intro k
  induction k with
  | zero => intro _; exact ⟨by simp, by simp⟩
  | succ k ih =>
    intro hk
    obtain ⟨i1, i2⟩ := ih (by omega)
    rw [List.range_succ, List.map_append, List.foldl_append]
    generalize List.foldl _ _ (List.map (· + 0) (List.range k)) = r at i1 i2
    have hk' : k < l.length := hk
    have e1 : (#[bu c] : Array UInt8).size = 1 := rfl
    simp only [List.map_cons, List.map_nil, List.foldl_cons, List.foldl_nil, Nat.add_zero, e1, by_ext l c k hk']
    have e2 : decide (k ≥ r.2) = true := decide_eq_true i2
    rw [e2, Bool.true_and, List.take_succ_eq_append_getElem hk', List.count_append]
    by_cases hc : l[k] = c
    · rw [hc]; simp [i1]
    · have : (l[k] == c) = false := beq_eq_false_iff_ne.mpr hc
      rw [this]; simp [i1]
      exact ⟨by rw [List.count_singleton]; simp [hc], by omega⟩

theorem occ (l : List Bool) (c : Bool) : (occurrences (by_ l) #[bu c] 0 (by_ l).size).length = l.count c := by
  have h := (occ_fold l c l.length (Nat.le_refl _)).1
  rw [List.take_length] at h
  rw [← h]
  unfold occurrences
  rw [List.length_reverse, by_size, show l.length + 1 - (0 + (#[bu c] : Array UInt8).size) = l.length from by simp]

theorem retI {i : Int} {Q : Fin → Shared → Prop} (h : Q (.done (.ret (.int i s.toks))) { s with toks := s.toks + 1 }) : wpAny M A (retInt i) Q E s :=
  wpAny_bind (wpAny_bind (wpAny_fresh (wpAny_pure (wpAny_pure h))))
theorem bytes_count {w : World} {A : Around} {Q : Value → Shared → Prop} {l : List Bool} {c : Bool}
   (h : Q (.int (l.count c) s.toks) { s with toks := s.toks + 1 }) : wpAny (model PG w) A (call (.builtin "bytes.count") [.bytes (by_ l) t, .bytes #[bu c] u]) Q E s := by
  refine wpAny_call_entry slot_bytes_count tb entry_bytes_count ?_ (args_bytes_count _ _)
  show wpAny (model PG w) A.in1 (countM .bytes ⟨[.bytes (by_ l) t, .bytes #[bu c] u], []⟩) _ _ _
  unfold countM searchArgs
  dsimp only
  refine wpAny_bind (wpAny_bind (wpAny_of_eq (a := ((Value.bytes (by_ l) t), [Value.bytes #[bu c] u])) rfl ?_))
  refine wpAny_bind (wpAny_of_eq (a := none) rfl ?_)
  refine wpAny_bind (wpAny_of_eq (a := none) rfl ?_)
  refine wpAny_bind (buf ?_)
  refine wpAny_bind (wpAny_pure ?_)
  refine wpAny_bind (pay ?_)
  refine wpAny_pure ?_
  have e : window (by_ l).size none none = (0, ((by_ l).size : Int)) := by
    unfold window; simp only [Option.getD_none]
    rw [if_neg (by omega), if_neg (by omega)]; simp
  rw [e]
  dsimp only
  have e1 : (#[bu c] : Array UInt8).size = 1 := rfl
  by_cases h0 : l.length = 0
  · have hl : l = [] := List.length_eq_zero_iff.mp h0
    subst hl
    rw [if_pos (by rw [e1, by_size]; simp)]
    exact retI ⟨_, rfl, h⟩
  · rw [if_neg (by rw [e1, by_size]; omega)]
    dsimp only
    rw [if_neg (by simp)]
    rw [Int.toNat_natCast, show (0 : Int).toNat = 0 from rfl, occ]
    exact retI ⟨_, rfl, h⟩
end
end Mine

namespace Mine
open Sre
structure CodeOk (code : Array Nat) : Prop where
  c0 : code.getD 0 0 = 14
  c1 : code.getD 1 0 = 8
  c2 : code.getD 2 0 = 1
  c3 : code.getD 3 0 = 2
  c9 : code.getD 9 0 = 16
  c10 : code.getD 10 0 = 34
  sz : 9 < code.size

structure MB (code text : Array Nat) (lim : Nat) (m : M) : Prop where
  eco : m.code = code
  etx : m.text = text
  eli : m.lim = lim
  ela : m.lastStart = lim
structure IA (code text : Array Nat) (lim p : Nat) (m : M) : Prop extends MB code text lim m where
  oc : m.outcome = none
  an : m.answer = none
  pc : m.pc = 9
  pos : m.pos = p
  le : p ≤ lim
  fr : ∃ f, m.frames = [f] ∧ f.wait = .nextStart ∧ f.pos = p ∧ f.pc = 9 ∧ f.kept.marks.size = 0
  wt : m.weight = 1
structure IB (code text : Array Nat) (lim p : Nat) (m : M) : Prop extends MB code text lim m where
  oc : m.outcome = none
  an : m.answer = some false
  le : p ≤ lim
  fr : ∃ f, m.frames = [f] ∧ f.wait = .nextStart ∧ f.pos = p ∧ f.pc = 9 ∧ f.kept.marks.size = 0
  wt : m.weight = 1
structure IC (m : M) : Prop where
  oc : m.outcome = none
  an : m.answer = some false
  fr : m.frames = []
/-- where the machine is, and how many steps it may still take -/
inductive IM (code text : Array Nat) (lim : Nat) : Nat → M → Prop
  | a {p m} : IA code text lim p m → IM code text lim (2 * (lim - p) + 3) m
  | b {p m} : IB code text lim p m → IM code text lim (2 * (lim - p) + 2) m
  | c {m} : IC m → IM code text lim 1 m
  | d {m} : m.outcome = some .failed → IM code text lim 0 m

variable {code text : Array Nat} {lim : Nat}
theorem attemptAt_ok (C : CodeOk code) {m : M} {s : Nat} {first : Bool} (B : MB code text lim m) (hoc : m.outcome = none) (han : m.answer = none) (hpc : m.pc = 9) (hs : s ≤ lim) (hf : m.frames = []) (hw : m.weight = 0) :
    IA code text lim s (m.attemptFrom s first) := by
  have h1 : m.hasFirstSet = false := by
    unfold M.hasFirstSet
    rw [B.eco, C.c2]; simp
  unfold M.attemptFrom
  rw [h1]
  simp only [Bool.not_false, if_true]
  unfold M.attemptAt M.attempt
  rw [if_neg (by simp [hw])]
  exact ⟨⟨B.eco, B.etx, B.eli, B.ela⟩, hoc, han, hpc, rfl, hs, ⟨{ wait := .nextStart, pc := m.pc, pos := s, outermost := first }, by simp [hf], rfl, rfl, hpc, rfl⟩, by simp [hw]⟩

theorem step_ok (C : CodeOk code) (ht : ∀ p, p < lim → text.getD p 0 ≠ 34) {n : Nat} {m : M} (I : IM code text lim (n + 1) m) : ∃ k, k ≤ n ∧ IM code text lim k m.step := by
  generalize hN : n + 1 = N at I
  cases I with
  | @a p _ I =>
    obtain ⟨B, oc, an, pc, pos, le, fr, wt⟩ := I
    obtain ⟨f, hf, h1, h2, h3, h4⟩ := fr
    refine ⟨2 * (lim - p) + 2, by omega, .b ?_⟩
    have e : m.step = m.exec := by
      unfold M.step
      rw [oc, an, if_neg (by decide)]
      simp only
      rw [if_pos (by rw [pc, B.eco]; exact C.sz)]
    have hw : m.word 0 = 16 := by unfold M.word; rw [B.eco, pc]; exact C.c9
    have hop : ops[16]? = some Op.LITERAL := rfl
    rw [e]
    unfold M.exec
    rw [hw, hop]
    simp only
    by_cases hp : p < lim
    · rw [if_neg (by rw [pos, B.eli]; omega)]
      have ha : accepts m.code m.pc (m.text.getD m.pos 0) (m.seen.add 16) = .ok (false, m.seen.add 16) := by
        unfold accepts
        rw [B.eco, pc, C.c9, hop]
        simp only [show (9 : Nat) + 1 = 10 from rfl, C.c10]
        rw [B.etx, pos]
        have := ht p hp
        rw [beq_eq_false_iff_ne.mpr this]
      simp only [ha]
      exact ⟨⟨B.eco, B.etx, B.eli, B.ela⟩, oc, rfl, le, ⟨f, hf, h1, h2, h3, h4⟩, wt⟩
    · rw [if_pos (by rw [pos, B.eli]; omega)]
      exact ⟨⟨B.eco, B.etx, B.eli, B.ela⟩, oc, rfl, le, ⟨f, hf, h1, h2, h3, h4⟩, wt⟩
  | @b p _ I =>
    obtain ⟨B, oc, an, le, fr, wt⟩ := I
    obtain ⟨f, hf, h1, h2, h3, h4⟩ := fr
    have e : m.step = M.resume { m with answer := none, frames := [], weight := m.weight - (1 + f.kept.marks.size), pc := f.pc, pos := f.pos, outermost := f.outermost } f false := by
      unfold M.step
      rw [oc, an, hf, if_neg (by decide)]
    rw [e]
    unfold M.resume
    rw [h1]
    simp only [Bool.false_eq_true, if_false]
    by_cases hp : p < lim
    · rw [if_pos (by rw [h2, B.ela]; exact hp)]
      refine ⟨2 * (lim - (p + 1)) + 3, by omega, .a ?_⟩
      rw [h2]
      exact attemptAt_ok C ⟨B.eco, B.etx, B.eli, B.ela⟩ oc rfl h3 hp rfl (by simp [wt, h4])
    · rw [if_neg (by rw [h2, B.ela]; exact hp)]
      exact ⟨1, by omega, .c ⟨oc, rfl, rfl⟩⟩
  | c I =>
    obtain ⟨oc, an, fr⟩ := I
    refine ⟨0, by omega, .d ?_⟩
    unfold M.step
    rw [oc, an, fr, if_neg (by decide)]
    rfl
  | d _ => omega

theorem step_done {m : M} (h : m.outcome = some .failed) : ∀ k, m.runFor k = m
  | 0 => rfl
  | k + 1 => by unfold M.runFor; rw [h]; rfl
theorem runFor_ok (C : CodeOk code) (ht : ∀ p, p < lim → text.getD p 0 ≠ 34) : ∀ (k n : Nat) (m : M), IM code text lim n m → ∃ n', n' ≤ n - k ∧ IM code text lim n' (m.runFor k)
  | 0, n, m, I => ⟨n, Nat.le_refl _, I⟩
  | k + 1, 0, m, I => by
    cases I with
    | d h => exact ⟨0, by omega, by rw [step_done h]; exact .d h⟩
  | k + 1, n + 1, m, I => by
    have ho : m.outcome = none := by
      generalize hN : n + 1 = N at I
      cases I with
      | a I => exact I.oc
      | b I => exact I.oc
      | c I => exact I.oc
      | d _ => omega
    obtain ⟨j, hj, I'⟩ := step_ok C ht I
    obtain ⟨n', h1, h2⟩ := runFor_ok C ht k j m.step I'
    refine ⟨n', by omega, ?_⟩
    unfold M.runFor
    rw [ho]
    exact h2

open Builtin.Re
section
variable {MM : Model} {A : Around} {E : Value → Shared → Prop} {s : Shared}
theorem drive (C : CodeOk code) (ht : ∀ p, p < lim → text.getD p 0 ≠ 34) {Q : M → Shared → Prop} (hQ : ∀ m, m.outcome = some .failed → Q m s) :
    ∀ (N n : Nat) (m : M), n < N → IM code text lim n m → wpAny MM A (reDrive N m) Q E s
  | 0, n, m, h, _ => by omega
  | N + 1, n, m, h, I => by
    unfold reDrive
    obtain ⟨n', h1, I'⟩ := runFor_ok C ht reTurnSteps n m I
    simp only
    by_cases hz : n' = 0
    · subst hz
      cases I' with
      | d hd => rw [hd, if_pos (by rfl)]; exact wpAny_pure (hQ _ hd)
    · have ho : (m.runFor reTurnSteps).outcome = none := by
        cases I' with
        | a I => exact I.oc
        | b I => exact I.oc
        | c I => exact I.oc
        | d _ => omega
      rw [ho, if_neg (by decide)]
      exact wpAny_bind (wpAny_rule (drive C ht hQ N n' _ (by have : reTurnSteps = 4 := rfl; omega) I'))

theorem rules (c : Nat → Bool) (f : Nat → String) {Q : PUnit → Shared → Prop} (h : Q ⟨⟩ s) : ∀ l : List Nat,
    wpAny MM A (forIn l PUnit.unit fun i _ => if c i = true then do rule (f i); pure (ForInStep.yield PUnit.unit) else pure (ForInStep.yield PUnit.unit)) Q E s
  | [] => by rw [List.forIn_nil]; exact wpAny_pure h
  | i :: r => by
    rw [List.forIn_cons]
    refine wpAny_bind ?_
    by_cases hc : c i = true
    · rw [if_pos hc]; exact wpAny_bind (wpAny_rule (wpAny_pure (rules c f h r)))
    · rw [if_neg hc]; exact wpAny_pure (rules c f h r)

theorem toEnd (C : CodeOk code) (ht : ∀ p, p < lim → text.getD p 0 ≠ 34) {Q : Option M → Shared → Prop} (hQ : Q none s) {n : Nat} {m : M} (hn : n < 2 ^ 64) (I : IM code text lim n m) :
    wpAny MM A (reRunToEnd m) Q E s := by
  unfold reRunToEnd
  refine wpAny_bind (drive C ht (fun m hm => ?_) _ n m hn I)
  refine wpAny_bind (rules _ _ ?_ _)
  rw [hm]
  exact wpAny_pure hQ

theorem search (C : CodeOk code) (ht : ∀ p, p < lim → text.getD p 0 ≠ 34) {Q : Option M → Shared → Prop} (hQ : Q none s) (hl : lim < 2 ^ 60) :
    wpAny MM A (reRunToEnd (forSearch code text 0 0 lim false)) Q E s := by
  have hh : header code = (2, 9) := by
    unfold header
    rw [C.c0, show ops[14]? = some Op.INFO from rfl]
    simp only [C.c3, C.c1]
  have : ∃ n, n < 2 ^ 64 ∧ IM code text lim n (forSearch code text 0 0 lim false) := by
    have e : forSearch code text 0 0 lim false = (let m : M := { code, text, lim, start := 0, pc := (header code).2, pos := 0, handed := 0, marks := Array.replicate 0 none, mustAdvance := false, seen := if (header code).2 == 0 then {} else ({} : Sre.Seen).add 14 }
        if 0 > lim || lim - 0 < (header code).1 then m.say false
        else { m with lastStart := if (header code).1 > 1 && !((header code).2 != 0 && code.getD 2 0 &&& 5 != 0) then max 0 (lim - ((header code).1 - 1)) else lim }.attemptFrom 0 true) := rfl
    rw [e, hh, C.c2]
    simp only
    split
    · exact ⟨1, by decide, .c ⟨rfl, rfl, rfl⟩⟩
    · exact ⟨2 * (lim - 0) + 3, by omega, .a (attemptAt_ok C ⟨rfl, rfl, rfl, by simp⟩ rfl rfl rfl (Nat.zero_le _) rfl rfl)⟩
  obtain ⟨n, h1, h2⟩ := this
  exact toEnd C ht hQ h1 h2
end
end Mine

namespace Mine
theorem slot_sub : Slot "re.Pattern" "sub" "re.Pattern.sub" :=
  .of (owner := "re.Pattern") (n := "sub") (by rw [typeLookup_type, builtinLookup_eq_fast]; kernel_rfl) (by decide +kernel) (by decide +kernel) (by decide +kernel)
    (by first | exact .inl (by decide +kernel) | exact .inr (by decide +kernel)) (by rw [isSubtype_type]; kernel_rfl)
theorem type_sub : typeOf (.builtin "re.Pattern.sub") = pure (.type "method_descriptor") := by show builtinType _ = _; rw [builtinType_eq_fast]; kernel_rfl
theorem entry_sub : entryFor table "re.Pattern.sub" = some Builtin.«re.Pattern.sub» := entryFor_of_tree (by kernel_rfl)
theorem entry_loop : entryFor table "re.Pattern.sub.loop" = some Builtin.«re.Pattern.sub.loop» := entryFor_of_tree (by kernel_rfl)
theorem plainAttrs_pat : PlainAttrs "re.Pattern" :=
  ⟨⟨"object.__getattribute__", by rw [typeLookup_type, builtinLookup_eq_fast]; kernel_rfl, by decide +kernel⟩, by rw [typeLookup_type, builtinLookup_eq_fast]; kernel_rfl⟩
theorem owner_pat : Manifest.owners.lookup (String.ofList ['n', 'r', 'e', 't', 't', 'a', 'P', '.', 'e', 'r'].reverse) = some Manifest.sig_re_Pattern := by kernel_rfl
theorem args_sub (a b c : Value) : argsOk "re.Pattern.sub" ⟨[a, b, c], []⟩ := by
  unfold argsOk; rw [signature?_of (id := "re.Pattern.sub") (n := ['b', 'u', 's']) (o := ['n', 'r', 'e', 't', 't', 'a', 'P', '.', 'e', 'r']) (by kernel_rfl) owner_pat]; kernel_rfl
theorem slot_join : Slot "bytes" "join" "bytes.join" :=
  .of (owner := "bytes") (n := "join") (by rw [typeLookup_type, builtinLookup_eq_fast]; kernel_rfl) (by decide +kernel) (by decide +kernel) (by decide +kernel)
    (by first | exact .inl (by decide +kernel) | exact .inr (by decide +kernel)) sub_bytes
theorem entry_join : entryFor table "bytes.join" = some Builtin.«bytes.join» := entryFor_of_tree (by kernel_rfl)
theorem args_join (a b : Value) : argsOk "bytes.join" ⟨[a, b], []⟩ := by
  unfold argsOk; rw [signature?_of (id := "bytes.join") (n := ['n', 'i', 'o', 'j']) (o := ['s', 'e', 't', 'y', 'b']) (by kernel_rfl) FB.owner_bytes]; kernel_rfl
section
variable {w : World} {A : Around} {E : Value → Shared → Prop} {s : Shared} {x y : Array UInt8} {t u : Tok}
open Builtin.Bytes
theorem bytes_join {P : Addr} {Q : Value → Shared → Prop} (hl : s.heap.IsList P #[.bytes x u]) (h : Q (.bytes x u) s) : wpAny (model PG w) A (call (.builtin "bytes.join") [.bytes y t, .ref P]) Q E s := by
  refine wpAny_call_entry slot_join tb entry_join ?_ (args_join _ _)
  show wpAny (model PG w) A.in1 (joinM .bytes ⟨[.bytes y t, .ref P], []⟩) _ _ _
  unfold joinM
  dsimp only
  refine wpAny_bind (wpAny_of_eq (a := ((Value.bytes y t), (Value.ref P))) rfl ?_)
  dsimp only
  rw [if_pos (by rfl)]
  unfold joinItems
  refine wpAny_bind (wpAny_bind (wpAny_typeOf hl.typeIs ?_))
  rw [if_pos (by rfl)]
  refine wpAny_pure ?_
  obtain ⟨o, ho, hc, n, hd⟩ := hl
  refine wpAny_bind (wpAny_seqItems ho hd ?_)
  dsimp only
  rw [if_pos (by rfl)]
  refine wpAny_bind (wpAny_pure ?_)
  rw [if_pos (by rfl)]
  exact wpAny_bind (wpAny_rule (wpAny_pure ⟨_, rfl, h⟩))

open Builtin.Re Sre
theorem seq56 (G : Gd w s.heap) : ∃ vs, s.heap.get? 56 = some { cls := .type "tuple", data := .seq vs } ∧ CodeOk ((vs.map reRawOf).map (·.toNat)) := by
  refine ⟨_, G.X 56 _ rfl, ?_⟩
  exact ⟨by decide +kernel, by decide +kernel, by decide +kernel, by decide +kernel, by decide +kernel, by decide +kernel, by decide +kernel⟩

def txt (l : List Bool) : Array Nat := (by_ l).map (·.toNat)
theorem txt_ne (l : List Bool) (p : Nat) (hp : p < l.length) : (txt l).getD p 0 ≠ 34 := by
  have : (txt l).getD p 0 = (bu l[p]).toNat := by simp [txt, by_, hp, Array.getD]
  rw [this]
  cases l[p] <;> decide

theorem whole {l : List Bool} {Q : ReTarget → Shared → Prop} (G : Gd w s.heap)
   (h : ∀ code, CodeOk code → Q { pattern := .ref 57, string := .bytes (by_ l) t, code, text := txt l, kind := 1, groups := 0, pos := 0, lim := l.length } s) :
   wpAny (model PG w) A (reWholeTarget (.ref 57) (.bytes (by_ l) t)) Q E s := by
  obtain ⟨vs, h56, C⟩ := seq56 G
  have h57 := G.X 57 _ rfl
  unfold reWholeTarget
  refine wpAny_bind ?_
  unfold fieldsOf
  refine wpAny_bind (wpAny_load h57 ?_)
  refine wpAny_pure ?_
  unfold reTextOf
  refine wpAny_bind (wpAny_bind (wpAny_of_eq (a := none) rfl ?_))
  dsimp only
  refine wpAny_bind (bufQ ?_)
  refine wpAny_pure ?_
  rw [if_neg (by exact Bool.false_ne_true), if_neg (by exact Bool.false_ne_true)]
  unfold reNoCollectionInside
  dsimp only
  rw [if_pos (by rfl)]
  refine wpAny_bind (wpAny_bind (wpAny_isInstance tb sub_bytes ?_))
  rw [if_neg (by decide)]
  refine wpAny_pure (wpAny_bind ?_)
  unfold reRawItems
  refine wpAny_bind (wpAny_seqItems h56 rfl ?_)
  refine wpAny_pure (wpAny_pure ?_)
  have e : (txt l).size = l.length := by simp [txt, by_size]
  have h' := h _ C
  rw [← e] at h'
  exact h'

theorem ext_upd {h h' : Heap} {P : Addr} (k : Ext h h') (hP : h.objs.size ≤ P) (f : Obj → Obj) : Ext h (h'.update P f) := fun b o e =>
  (Heap.get?_update_ne _ _ _ _ (Nat.ne_of_lt (Nat.lt_of_lt_of_le (Heap.lt_size e) hP))).trans (k b o e)

theorem extract_txt (l : List Bool) : ((txt l).extract 0 l.length).map (fun x => x.toUInt8) = by_ l := by
  have e : (txt l).size = l.length := by simp [txt, by_size]
  rw [← e, Array.extract_size, txt, Array.map_map]
  have : ((fun (x : Nat) => x.toUInt8) ∘ fun (x : UInt8) => x.toNat) = id := by funext x; simp
  rw [this, Array.map_id]

theorem slice_all {l : List Bool} {Q : Value → Shared → Prop} (hl : l.length ≤ sizeLine) (h : Q (.bytes (by_ l) s.toks) { s with toks := s.toks + 1 }) :
   wpAny (model PG w) A (reSlice (txt l) 1 0 l.length) Q E s := by
  unfold reSlice
  rw [if_neg (by exact Bool.false_ne_true), extract_txt]
  unfold mkBytes
  rw [if_neg (by rw [by_size]; omega)]
  exact wpAny_bind (wpAny_fresh (wpAny_pure h))
theorem slice_none {l : List Bool} {Q : Value → Shared → Prop} (h : Q (.bytes #[] s.toks) { s with toks := s.toks + 1 }) :
   wpAny (model PG w) A (reSlice (txt l) 1 0 0) Q E s := by
  unfold reSlice
  rw [if_neg (by exact Bool.false_ne_true)]
  have e : ((txt l).extract 0 0).map (·.toUInt8) = (#[] : Array UInt8) := by simp
  rw [e]
  unfold mkBytes
  rw [if_neg (by decide)]
  exact wpAny_bind (wpAny_fresh (wpAny_pure h))

/-- the loop of sub over a text without a mark -/
theorem sub_loop {l : List Bool} {P : Addr} {Q : Fin → Shared → Prop} (G : Gd w s.heap) (hl : l.length ≤ sizeLine) (hP : s.heap.get? P = some { cls := .type "list", data := .seq #[] })
   (h : ∀ h' tk tk', (∀ b o, b ≠ P → s.heap.get? b = some o → h'.get? b = some o) → Q (.done (.ret (.bytes (by_ l) tk))) { s with heap := h', toks := tk' }) :
   wpAny (model PG w) A (Builtin.«re.Pattern.sub.loop» ⟨[.ref 57, .bytes (by_ l) t, .bytes #[] u, rawInt 0, rawInt 0, rawInt 0, rawInt 0, rawInt 0, .bool false, .ref P, .bool false], []⟩) Q E s := by
  unfold Builtin.«re.Pattern.sub.loop»
  refine wpAny_bind (whole G fun code C => ?_)
  dsimp only
  rw [if_pos (by rfl)]
  unfold reLiteralCannotBeTurned
  refine wpAny_bind (wpAny_bind (wpAny_of_eq (a := none) rfl ?_))
  rw [if_pos (by rfl)]
  refine wpAny_bind (wpAny_isInstance tb sub_bytes ?_)
  rw [if_neg (by decide)]
  refine wpAny_pure (wpAny_bind ?_)
  rw [if_neg (by exact Bool.false_ne_true)]
  unfold reNextFound
  refine search C (fun p hp => txt_ne l p hp) ?_ (by have : sizeLine = 2 ^ 24 := rfl; omega)
  dsimp only
  rw [show Int.toNat 0 = 0 from rfl]
  by_cases h0 : l.length = 0
  · have hn : l = [] := List.length_eq_zero_iff.mp h0
    rw [if_neg (by omega)]
    refine wpAny_bind (slice_none ?_)
    refine wpAny_bind (wpAny_seqItems (s := { s with toks := s.toks + 1 }) hP rfl ?_)
    rw [if_pos (by rfl)]
    refine wpAny_bind (wpAny_pure ?_)
    rw [if_neg (by exact Bool.false_ne_true)]
    refine wpAny_pure ?_
    have := h s.heap s.toks (s.toks + 1) (fun b o _ e => e)
    rw [hn] at this
    exact this
  · rw [if_pos (by omega)]
    refine wpAny_bind (slice_all hl ?_)
    refine wpAny_bind (wpAny_updateSeq (s := { s with toks := s.toks + 1 }) hP rfl ?_)
    refine wpAny_bind (slice_none ?_)
    have hq : (s.heap.update P (Obj.mapSeq fun x => x.push (Value.bytes (by_ l) s.toks))).get? P = some { cls := .type "list", data := .seq #[Value.bytes (by_ l) s.toks] 1 } := Heap.get?_update_self _ hP rfl
    refine wpAny_bind (wpAny_seqItems (o := { cls := .type "list", data := .seq #[Value.bytes (by_ l) s.toks] 1 }) hq rfl ?_)
    rw [if_neg (by exact Bool.false_ne_true)]
    rw [if_neg (by exact Bool.false_ne_true)]
    refine wpAny_bind (bytes_join ⟨_, hq, rfl, _, rfl⟩ ?_)
    rw [if_neg (by exact Bool.false_ne_true)]
    exact wpAny_pure (h _ _ _ fun b o hb e => (Heap.get?_update_ne _ _ _ _ hb).trans e)

theorem codeB {id : String} {args : Args} {b : Builtin} {R : Result → Shared → Prop} (hb : entryFor table id = some b) (hq : plainId id = true)
    (h : wpAny (model PG w) A.in1 (b args) (fun fin s' => match fin with | .done f => R (.ok f) s' | .again c' => c'.quiet = true ∧ codeAny (model PG w) A c' R s') (fun e s' => R (.error e) s') s) :
    codeAny (model PG w) A (.builtin id args) R s := by
  refine codeAny_of_tree ?_
  rw [Around.under_plainId hq]
  show wpAny _ _ (match entryFor table id with | some b => b args | none => unsupported ((withoutEnding? id "#data").getD id)) _ _ s
  rw [hb]; exact h
theorem pattern_sub {l : List Bool} {Q : Value → Shared → Prop} (G : Gd w s.heap) (hl : l.length ≤ sizeLine)
   (h : ∀ h' tk tk', Ext s.heap h' → Q (.bytes (by_ l) tk) { s with heap := h', toks := tk' }) :
   wpAny (model PG w) A (call (.builtin "re.Pattern.sub") [.ref 57, .bytes #[] u, .bytes (by_ l) t]) Q E s := by
  have h57 := G.X 57 _ rfl
  have hT : s.TypeIs (.ref 57) "re.Pattern" := ⟨_, h57, rfl⟩
  refine wpAny_call (codeAny_call_builtin_at (plainId_quiet slot_sub.plain _) entry_sub ?_)
  refine slot_sub.check _ _ _ _ _ _ _ _ hT (args_sub _ _ _) ?_
  rw [Around.under_plainId slot_sub.plain]
  show wpAny (model PG w) A.in1 (reSubstitute "re.Pattern.sub" "sub" false ⟨[.ref 57, .bytes #[] u, .bytes (by_ l) t], []⟩) _ _ _
  unfold reSubstitute
  dsimp only
  refine wpAny_bind (wpAny_of_eq (a := [some (.bytes #[] u), some (.bytes (by_ l) t), none]) (by kernel_rfl) ?_)
  dsimp only
  refine wpAny_bind (wpAny_pure ?_)
  refine wpAny_bind (wpAny_specialOf tb lk_bytes_call ?_)
  rw [if_neg (by exact Bool.false_ne_true)]
  refine wpAny_bind (wpAny_of_eq (a := none) rfl ?_)
  dsimp only
  refine wpAny_bind (bufQ ?_)
  dsimp only
  refine wpAny_bind (wpAny_pure ?_)
  rw [if_neg (by exact Bool.false_ne_true), if_pos (by simp)]
  refine wpAny_bind (wpAny_pure ?_)
  dsimp only
  refine wpAny_bind (wpAny_holding (whole G fun _ _ => ?_))
  rw [if_neg (by exact Bool.false_ne_true)]
  refine wpAny_bind (wpAny_newObj_type ?_ (by size_fits))
  have q1 : plainId "re.Pattern.sub.loop" = true := by decide +kernel
  refine wpAny_pure ⟨plainId_quiet q1 _, ?_⟩
  refine codeB entry_loop q1 ?_
  have k1 : Ext s.heap (s.heap.push { cls := .type "list", data := .seq ([] : List Value).toArray }) := fun b o e => Heap.get?_push_of_some _ e
  refine sub_loop (s := { s with heap := s.heap.push _ }) (P := s.heap.objs.size) (G.ext k1) hl (Heap.get?_push_size _ rfl) fun h' tk tk' k2 => ?_
  exact h h' tk tk' fun b o e => k2 b o (Nat.ne_of_lt (Heap.lt_size e)) (k1 b o e)
end
end Mine

namespace Mine
theorem bytes_count' {w : World} {A : Around} {E : Value → Shared → Prop} {s : Shared} {t u : Tok} {Q : Value → Shared → Prop} {l : List Bool} {y : Array UInt8} (c : Bool) (hy : y = #[bu c])
   (h : Q (.int (l.count c) s.toks) { s with toks := s.toks + 1 }) : wpAny (model PG w) A (call (.builtin "bytes.count") [.bytes (by_ l) t, .bytes y u]) Q E s := by
  subst hy; exact bytes_count h
section
variable {M : Model} {A : Around} {E : Value → Shared → Prop} {s : Shared} {pl : Sem Bool} {Q : Value × List Value → Shared → Prop}
theorem gm_count {x : Array UInt8} {t : Tok} (h : Q (.builtin "bytes.count", [.bytes x t]) s) : wpAny M A (getMethod (.bytes x t) (Str.ofString "count") pl) Q E s := by
  with_reducible exact getMethod_builtin (tb (x := x) (t := t)) FB.plainAttrs_bytes slot_bytes_count type_bytes_count (fun a e => by cases e) h
theorem gm_encode {x : Str} {t : Tok} (h : Q (.builtin "str.encode", [.str x t]) s) : wpAny M A (getMethod (.str x t) (Str.ofString "encode") pl) Q E s := by
  with_reducible exact getMethod_builtin (typeIs_str _ x t) F.plainAttrs_str F.slot_str_encode F.type_str_encode (fun a e => by cases e) h
theorem gm_join {x : Str} {t : Tok} (h : Q (.builtin "str.join", [.str x t]) s) : wpAny M A (getMethod (.str x t) (Str.ofString "join") pl) Q E s := by
  with_reducible exact getMethod_builtin (typeIs_str _ x t) F.plainAttrs_str F.slot_str_join F.type_str_join (fun a e => by cases e) h
theorem gm_sub {w : World} (G : Gd w s.heap) (h : Q (.builtin "re.Pattern.sub", [.ref 57]) s) : wpAny M A (getMethod (.ref 57) (Str.ofString "sub") pl) Q E s :=
  getMethod_builtin ⟨_, G.X 57 _ rfl, rfl⟩ plainAttrs_pat slot_sub type_sub (fun a e => by cases e; exact ⟨_, G.X 57 _ rfl, rfl⟩) h
end
/-- the depth of a bracket word -/
def dep (l : List Bool) : Int := l.count true - l.count false
section
variable {w : World} {A : Around} {E : Value → Shared → Prop} {s : Shared} {t : Tok} {l : List Bool}

theorem k_alloc {s s' : Shared} {h' : Heap} {tk : Nat} (k : Ext s.heap h') (e : s' = { s with heap := h', toks := tk }) : Keeps s s' := ⟨h', tk, e, k⟩

theorem paren_depth_call {Q : Value → Shared → Prop} (ok : Ok A 2) (G : Gd w s.heap) (hl : l.length ≤ sizeLine)
    (h : ∀ tk s', Keeps s s' → Q (.int (dep l) tk) s') : wpAny (model PG w) A (call (.ref 65) [.bytes (by_ l) t]) Q E s := by
  refine wpAny_call (callD (binds := [(Str.ofString "data", .bytes (by_ l) t), (Str.ofString "depth", .int 0 362)]) (G.X 65 _ rfl) rfl G.lim (by have := ok.dp; omega) (codeRec_of G.X rfl)
    (BindsTo.of_defaults (o := _) rfl (G.X 58 _ rfl) rfl rfl rfl) (locs rfl) (by decide) fun h₁ F => ?_)
  have G1 := G.ext F.keep
  refine wpAny_execs_cons (wpAny_Assign_Name (MethodCall_ ?_))
  refine gname G1 rfl ?_
  with_reducible refine gm_sub G1 ?_
  refine callWith_method1 (spliced_more (Constant_bytes (spliced_more ?_)))
  refine ld F rfl (spliced_none ?_)
  refine pattern_sub (s := { s with heap := h₁, toks := _ }) G1 hl fun h₂ tk tk' k₂ => ?_
  have F2 := F.keeps k₂
  refine st F2 fun h₃ F3 => ?_
  refine wpAny_execs_cons (wpAny_Return_some (wpAny_BinOp (wpAny_BinOp ?_)))
  refine ld F3 rfl (MethodCall_ ?_)
  refine ld F3 rfl ?_
  with_reducible refine gm_count ?_
  refine callWith_method1 (spliced_more (Constant_bytes (spliced_none ?_)))
  refine bytes_count' true (by decide) ?_
  refine add_int (MethodCall_ ?_)
  refine ld F3 rfl ?_
  with_reducible refine gm_count ?_
  refine callWith_method1 (spliced_more (Constant_bytes (spliced_none ?_)))
  refine bytes_count' false (by decide) ?_
  refine sub_int ?_
  have e : (0 + (l.count true : Int) - l.count false) = dep l := by unfold dep; omega
  have h' := h
  rw [← e] at h'
  exact h' _ _ ⟨_, _, rfl, F3.keep⟩

theorem law_depth_call {Q : Value → Shared → Prop} (ok : Ok A 4) (G : Gd w s.heap) (hl : l.length ≤ sizeLine)
    (h : ∀ tk s', Keeps s s' → Q (.int (dep l) tk) s') : wpAny (model PG w) A (call (.ref 72) [.str (bw l) t]) Q E s := by
  refine wpAny_call (callD (binds := [(Str.ofString "word", .str (bw l) t)]) (G.X 72 _ rfl) rfl G.lim (by have := ok.dp; omega) (codeRec_of G.X rfl)
    (BindsTo.of_eq rfl) (locs rfl) (by decide) fun h₁ F => ?_)
  have G1 := G.ext F.keep
  refine wpAny_execs_cons (wpAny_Return_some (Call_ ?_))
  refine gname G1 rfl ?_
  refine callWith_K (K := KK w) G1.X rfl (spliced_more (MethodCall_ ?_))
  refine ld F rfl ?_
  with_reducible refine gm_encode ?_
  refine callWith_method1 (spliced_more (Constant_str (spliced_none ?_)))
  refine str_encode hl ?_
  refine spliced_none ⟨G1.X, ?_⟩
  refine paren_depth_call (ok.deeper.mono (by decide)) G1 hl fun tk s' k => ?_
  obtain ⟨h', tk', rfl, k⟩ := k
  exact h _ _ ⟨_, _, rfl, fun b o e => k b o (F.keep b o e)⟩
end
end Mine

namespace Mine
section
variable {α β γ : Type}
theorem paired_range' {R : Nat → β → Prop} : ∀ (vs : List β) (st : Nat), (∀ j v, vs[j]? = some v → R (st + j) v) → Paired R (List.range' st vs.length) vs
  | [], _, _ => .nil
  | v :: r, st, h => .cons (h 0 v rfl) (paired_range' r (st + 1) fun j u e => by have := h (j + 1) u (by simpa using e); rwa [show st + (j + 1) = st + 1 + j from by omega] at this)
theorem paired_filter {R : α → β → Prop} {F : β → γ → Prop} {G : α → γ → Prop} {p : β → Bool} {q : α → Bool} (hp : ∀ i v, R i v → p v = q i) (hF : ∀ i v y, R i v → F v y → G i y) :
    ∀ {l : List α} {vs : List β}, Paired R l vs → ∀ {ys : List γ}, Paired F (vs.filter p) ys → Paired G (l.filter q) ys
  | _, _, .nil, _, h => by cases h; exact .nil
  | _, _, .cons (a := a) (b := b) h t, ys, h' => by
    have e := hp a b h
    cases hq : q a with
    | false =>
      rw [hq] at e
      rw [List.filter_cons_of_neg (by simp [hq])]
      rw [List.filter_cons_of_neg (by simp [e])] at h'
      exact paired_filter hp hF t h'
    | true =>
      rw [hq] at e
      rw [List.filter_cons_of_pos hq]
      rw [List.filter_cons_of_pos e] at h'
      cases h' with
      | cons h1 h2 => exact .cons (hF _ _ _ h h1) (paired_filter hp hF t h2)
end

section
variable {w : World} {A : Around} {E : Value → Shared → Prop} {s : Shared} {t : Tok} {l : List Bool} {env : Env}

def pOf (a : Int) (pz : Nat → Bool) (v : Value) : Bool := match v with | .int k _ => pz (k - a).toNat | _ => false
def fOf (a : Int) (G : Nat → Value → Prop) (v y : Value) : Prop := match v with | .int k _ => G (k - a).toNat y | _ => False
/-- the tail of a comprehension over a range, from the range object on -/
theorem comp_range {r : Addr} {a b : Int} {t u v : Tok} {n : Nat} {x : Str} {ifs : List Expr} {elt : Expr} {scope : Scope} {cl : List (Str × Addr)} {Q : Value → Shared → Prop} (pz : Nat → Bool) (G : Nat → Value → Prop)
    (hh : A.handled = none) (hr : IsRange s.heap r a b 1 t u v) (ha : -(2 ^ 62) ≤ a) (ha' : a < 2 ^ 62) (hb : -(2 ^ 62) ≤ b) (hb' : b < 2 ^ 62) (hn : n = (b - a).toNat) (hnz : n ≤ sizeLine)
    (tests : ∀ C i tk s₃ m₃ E', s.heap.objs.size ≤ C → i < n → s₃.heap.Ns C m₃ → m₃ x = some (.int (a + i) tk) → Ext s.heap s₃.heap →
      wpAny (model PG w) A (forIn ifs true fun c r => if r = true then do let ok ← isTrue c (compEnvC scope cl C env) (eval c (compEnvC scope cl C env)); pure (ForInStep.yield ok) else pure (ForInStep.yield r))
      (fun ok s₄ => ok = pz i ∧ Keeps s₃ s₄) E' s₃)
    (helt : ∀ C i tk s₃ m₃ E', s.heap.objs.size ≤ C → i < n → pz i = true → s₃.heap.Ns C m₃ → m₃ x = some (.int (a + i) tk) → Ext s.heap s₃.heap →
      wpAny (model PG w) A (eval elt (compEnvC scope cl C env)) (fun y s₄ => G i y ∧ Keeps s₃ s₄) E' s₃)
    (hQ : ∀ D h' tk ys, s.heap.get? D = none → h'.PlainList D ys → Paired G ((List.range n).filter pz) ys.toList → Ext s.heap h' → Q (.ref D) { s with heap := h', toks := tk }) :
    wpAny (model PG w) A (pyIter (.ref r)) (fun it s₂ => ∃ I fp wr n P St, it = .ref I ∧ Walks PG w A I fp wr n P St ∧ n ≤ sizeLine ∧ St 0 s₂.heap ∧ (∀ b ∈ fp, b < s₂.heap.objs.size) ∧
      QuietOnC PG w A env scope cl x ifs elt wr P (pOf a pz) (fOf a G) s₂ ∧
      (∀ D h' tk ys (vs : List Value), s₂.heap.get? D = none → h'.IsList D ys → h'.PlainList D ys → vs.length = n → (∀ j v, vs[j]? = some v → P j v) → Paired (fOf a G) (vs.filter (pOf a pz)) ys.toList →
        (∀ b o, b ∉ wr → s₂.heap.get? b = some o → h'.get? b = some o) → Q (.ref D) { s₂ with heap := h', toks := tk })) E s := by
  refine wpAny_pyIter_range hr (small_one ha ha' hb hb') ?_
  have hsz : Builtin.Range.rangeSize a b 1 = (n : Int) := by rw [rangeSize_one]; split <;> omega
  have k1 : Ext s.heap (s.heap.push { cls := .type "range_iterator", data := .fields #[rawInt a, rawInt (Builtin.Range.rangeSize a b 1), rawInt 1] }) := fun b o e => Heap.get?_push_of_some _ e
  refine ⟨s.heap.objs.size, [s.heap.objs.size], [s.heap.objs.size], n, _, _, rfl, (Walks.range hh _ a 1 n).bound, hnz, ?_, ?_, ?_, ?_⟩
  · have e1 : (a + ((0 : Nat) : Int) * 1) = a := by simp
    have e2 : ((n : Int) - ((0 : Nat) : Int)) = Builtin.Range.rangeSize a b 1 := by rw [hsz]; simp
    rw [e1, e2]
    exact Heap.get?_push_size _ rfl
  · intro c hc
    rw [List.mem_singleton.mp hc]; simp [Heap.size_push]
  · have ext : ∀ {h' : Heap}, (∀ c o, c ∉ [s.heap.objs.size] → (s.heap.push { cls := .type "range_iterator", data := .fields #[rawInt a, rawInt (Builtin.Range.rangeSize a b 1), rawInt 1] }).get? c = some o → h'.get? c = some o) → Ext s.heap h' :=
      fun k c o e => k c o (fun hm => by rw [List.mem_singleton.mp hm] at e; exact absurd (Heap.lt_size e) (Nat.lt_irrefl _)) (k1 c o e)
    refine ⟨fun C i v s₃ m₃ E' hC hv hN hm hk htk => ?_, fun C i v s₃ m₃ E' hC hv hp hN hm hk htk => ?_⟩
    · obtain ⟨hi, t₀, rfl⟩ := hv
      have e : (a + (i : Int) * 1 - a).toNat = i := by omega
      simp only [pOf, e]
      rw [Int.mul_one] at hm
      exact tests C i t₀ s₃ m₃ E' (by rw [Heap.size_push] at hC; omega) hi hN hm (ext hk)
    · obtain ⟨hi, t₀, rfl⟩ := hv
      have e : (a + (i : Int) * 1 - a).toNat = i := by omega
      simp only [pOf, fOf, e] at hp ⊢
      rw [Int.mul_one] at hm
      exact helt C i t₀ s₃ m₃ E' (by rw [Heap.size_push] at hC; omega) hi hp hN hm (ext hk)
  · intro D h' tk ys vs hD hl hpl hlen hP hF hk
    have k2 : Ext s.heap h' := fun c o e => hk c o (fun hm => by rw [List.mem_singleton.mp hm] at e; exact absurd (Heap.lt_size e) (Nat.lt_irrefl _)) (k1 c o e)
    refine hQ D h' tk ys ?_ hpl ?_ k2
    · cases q : s.heap.get? D with
      | none => rfl
      | some o => rw [k1 D o q] at hD; cases hD
    · have h1 : Paired (fun (i : Nat) (v : Value) => ∃ t, v = .int (a + i * 1) t) (List.range n) vs := by
        have := paired_range' (R := fun (i : Nat) (v : Value) => ∃ t, v = .int (a + i * 1) t) vs 0 (fun j v e => by rw [Nat.zero_add]; exact (hP j v e).2)
        rwa [hlen, ← List.range_eq_range'] at this
      refine paired_filter ?_ ?_ h1 hF
      · rintro i _ ⟨t₀, rfl⟩
        have e : (a + (i : Int) * 1 - a).toNat = i := by omega
        simp only [pOf, e]
      · rintro i _ y ⟨t₀, rfl⟩ hy
        have e : (a + (i : Int) * 1 - a).toNat = i := by omega
        simp only [fOf, e] at hy
        exact hy

theorem comp_call2 {a b : Int} {t u : Tok} {x : Str} {ifs : List Expr} {elt : Expr} {scope : Scope} {cl : List (Str × Addr)} {Q : Value → Shared → Prop} (pz : Nat → Bool) (G : Nat → Value → Prop) (n : Nat)
    (hh : A.handled = none) (ha : -(2 ^ 62) ≤ a) (ha' : a < 2 ^ 62) (hb : -(2 ^ 62) ≤ b) (hb' : b < 2 ^ 62) (hn : n = (b - a).toNat) (hnz : n ≤ sizeLine)
    (tests : ∀ C i tk s₃ m₃ E', s.heap.objs.size ≤ C → i < n → s₃.heap.Ns C m₃ → m₃ x = some (.int (a + i) tk) → Ext s.heap s₃.heap →
      wpAny (model PG w) A (forIn ifs true fun c r => if r = true then do let ok ← isTrue c (compEnvC scope cl C env) (eval c (compEnvC scope cl C env)); pure (ForInStep.yield ok) else pure (ForInStep.yield r))
      (fun ok s₄ => ok = pz i ∧ Keeps s₃ s₄) E' s₃)
    (helt : ∀ C i tk s₃ m₃ E', s.heap.objs.size ≤ C → i < n → pz i = true → s₃.heap.Ns C m₃ → m₃ x = some (.int (a + i) tk) → Ext s.heap s₃.heap →
      wpAny (model PG w) A (eval elt (compEnvC scope cl C env)) (fun y s₄ => G i y ∧ Keeps s₃ s₄) E' s₃)
    (hQ : ∀ D h' tk ys, s.heap.get? D = none → h'.PlainList D ys → Paired G ((List.range n).filter pz) ys.toList → Ext s.heap h' → Q (.ref D) { s with heap := h', toks := tk }) :
    wpAny (model PG w) A (call (.type "range") [.int a t, .int b u]) (fun xv s₁ => wpAny (model PG w) A (pyIter xv) (fun it s₂ => ∃ I fp wr n P St, it = .ref I ∧ Walks PG w A I fp wr n P St ∧ n ≤ sizeLine ∧ St 0 s₂.heap ∧ (∀ b ∈ fp, b < s₂.heap.objs.size) ∧
      QuietOnC PG w A env scope cl x ifs elt wr P (pOf a pz) (fOf a G) s₂ ∧
      (∀ D h' tk ys (vs : List Value), s₂.heap.get? D = none → h'.IsList D ys → h'.PlainList D ys → vs.length = n → (∀ j v, vs[j]? = some v → P j v) → Paired (fOf a G) (vs.filter (pOf a pz)) ys.toList →
        (∀ b o, b ∉ wr → s₂.heap.get? b = some o → h'.get? b = some o) → Q (.ref D) { s₂ with heap := h', toks := tk })) E s₁) E s := by
  refine call_range_2 ?_
  have k0 : ∀ o, Ext s.heap (s.heap.push o) := fun o c ob e => Heap.get?_push_of_some _ e
  refine comp_range pz G hh (IsRange.new ..) ha ha' hb hb' hn hnz (fun C i tk s₃ m₃ E' hC hi hN hm k => ?_) (fun C i tk s₃ m₃ E' hC hi hp hN hm k => ?_) (fun D h' tk ys hD hpl hP k => ?_)
  · exact tests C i tk s₃ m₃ E' (by rw [Heap.size_push] at hC; omega) hi hN hm fun c o e => k c o (k0 _ c o e)
  · exact helt C i tk s₃ m₃ E' (by rw [Heap.size_push] at hC; omega) hi hp hN hm fun c o e => k c o (k0 _ c o e)
  · refine hQ D h' tk ys ?_ hpl hP fun c o e => k c o (k0 _ c o e)
    cases q : s.heap.get? D with
    | none => rfl
    | some o => exact absurd hD (by rw [k0 _ D o q]; nofun)

theorem comp_call1 {b : Int} {u : Tok} {x : Str} {ifs : List Expr} {elt : Expr} {scope : Scope} {cl : List (Str × Addr)} {Q : Value → Shared → Prop} (pz : Nat → Bool) (G : Nat → Value → Prop) (n : Nat)
    (hh : A.handled = none) (hb : -(2 ^ 62) ≤ b) (hb' : b < 2 ^ 62) (hn : n = b.toNat) (hnz : n ≤ sizeLine)
    (tests : ∀ C i tk s₃ m₃ E', s.heap.objs.size ≤ C → i < n → s₃.heap.Ns C m₃ → m₃ x = some (.int i tk) → Ext s.heap s₃.heap →
      wpAny (model PG w) A (forIn ifs true fun c r => if r = true then do let ok ← isTrue c (compEnvC scope cl C env) (eval c (compEnvC scope cl C env)); pure (ForInStep.yield ok) else pure (ForInStep.yield r))
      (fun ok s₄ => ok = pz i ∧ Keeps s₃ s₄) E' s₃)
    (helt : ∀ C i tk s₃ m₃ E', s.heap.objs.size ≤ C → i < n → pz i = true → s₃.heap.Ns C m₃ → m₃ x = some (.int i tk) → Ext s.heap s₃.heap →
      wpAny (model PG w) A (eval elt (compEnvC scope cl C env)) (fun y s₄ => G i y ∧ Keeps s₃ s₄) E' s₃)
    (hQ : ∀ D h' tk ys, s.heap.get? D = none → h'.PlainList D ys → Paired G ((List.range n).filter pz) ys.toList → Ext s.heap h' → Q (.ref D) { s with heap := h', toks := tk }) :
    wpAny (model PG w) A (call (.type "range") [.int b u]) (fun xv s₁ => wpAny (model PG w) A (pyIter xv) (fun it s₂ => ∃ I fp wr n P St, it = .ref I ∧ Walks PG w A I fp wr n P St ∧ n ≤ sizeLine ∧ St 0 s₂.heap ∧ (∀ b ∈ fp, b < s₂.heap.objs.size) ∧
      QuietOnC PG w A env scope cl x ifs elt wr P (pOf 0 pz) (fOf 0 G) s₂ ∧
      (∀ D h' tk ys (vs : List Value), s₂.heap.get? D = none → h'.IsList D ys → h'.PlainList D ys → vs.length = n → (∀ j v, vs[j]? = some v → P j v) → Paired (fOf 0 G) (vs.filter (pOf 0 pz)) ys.toList →
        (∀ b o, b ∉ wr → s₂.heap.get? b = some o → h'.get? b = some o) → Q (.ref D) { s₂ with heap := h', toks := tk })) E s₁) E s := by
  refine call_range_1 ?_
  have k0 : ∀ o, Ext s.heap (s.heap.push o) := fun o c ob e => Heap.get?_push_of_some _ e
  refine comp_range pz G hh (IsRange.new ..) (by decide) (by decide) hb hb' (by omega) hnz (fun C i tk s₃ m₃ E' hC hi hN hm k => ?_) (fun C i tk s₃ m₃ E' hC hi hp hN hm k => ?_) (fun D h' tk ys hD hpl hP k => ?_)
  · exact tests C i tk s₃ m₃ E' (by rw [Heap.size_push] at hC; omega) hi hN (by rwa [Int.zero_add] at hm) fun c o e => k c o (k0 _ c o e)
  · exact helt C i tk s₃ m₃ E' (by rw [Heap.size_push] at hC; omega) hi hp hN (by rwa [Int.zero_add] at hm) fun c o e => k c o (k0 _ c o e)
  · refine hQ D h' tk ys ?_ hpl hP fun c o e => k c o (k0 _ c o e)
    cases q : s.heap.get? D with
    | none => rfl
    | some o => exact absurd hD (by rw [k0 _ D o q]; nofun)

theorem keeps_ext {s s' : Shared} (k : Keeps s s') : Ext s.heap s'.heap := by obtain ⟨h', tk, rfl, k⟩ := k; exact k
theorem ktr {s s' s'' : Shared} (k : Keeps s s') (k' : Keeps s' s'') : Keeps s s'' := by
  obtain ⟨h', tk, rfl, k⟩ := k
  obtain ⟨h'', tk', rfl, k'⟩ := k'
  exact ⟨h'', tk', rfl, fun b o e => k' b o (k b o e)⟩
theorem krefl (s : Shared) : Keeps s s := ⟨s.heap, s.toks, rfl, fun _ _ e => e⟩
theorem ints_paired {f : Nat → Int} : ∀ {L : List Nat} {ys : List Value}, Paired (fun i y => ∃ t, y = .int (f i) t) L ys → IntsAre ys (L.map f)
  | _, _, .nil => .nil
  | _, _, .cons h r => by obtain ⟨t, rfl⟩ := h; exact .cons _ _ (ints_paired r)
/-- a comprehension over range(a, b) -/
theorem lc2 {x : Str} {px pos : Pos} {iter elt : Expr} {ifs : List Expr} {scope : Scope} {cl : List (Str × Addr)} {Q : Value → Shared → Prop} (a b : Int) (pz : Nat → Bool) (G : Nat → Value → Prop) (n : Nat)
    (hclos : closureFor scope env = pure cl) (hcell : ∀ y ∈ scope.names, y.2 ≠ .cell) (hkind : scope.kind = .function)
    (hnames : ∀ y ∈ scope.names, y.2 = .local → scope.names.lookup y.1 = some .local) (hx : scope.names.lookup x = some .local)
    (hh : A.handled = none) (ha : -(2 ^ 62) ≤ a) (ha' : a < 2 ^ 62) (hb : -(2 ^ 62) ≤ b) (hb' : b < 2 ^ 62) (hn : n = (b - a).toNat) (hnz : n ≤ sizeLine)
    (hiter : ∀ Q' : Value → Shared → Prop, (∀ s₁ t u, Keeps s s₁ → wpAny (model PG w) A (call (.type "range") [.int a t, .int b u]) Q' E s₁) → wpAny (model PG w) A (eval iter env) Q' E s)
    (tests : ∀ C i tk s₃ m₃ E', i < n → s₃.heap.Ns C m₃ → m₃ x = some (.int (a + i) tk) → Ext s.heap s₃.heap →
      wpAny (model PG w) A (forIn ifs true fun c r => if r = true then do let ok ← isTrue c (compEnvC scope cl C env) (eval c (compEnvC scope cl C env)); pure (ForInStep.yield ok) else pure (ForInStep.yield r))
      (fun ok s₄ => ok = pz i ∧ Keeps s₃ s₄) E' s₃)
    (helt : ∀ C i tk s₃ m₃ E', i < n → pz i = true → s₃.heap.Ns C m₃ → m₃ x = some (.int (a + i) tk) → Ext s.heap s₃.heap →
      wpAny (model PG w) A (eval elt (compEnvC scope cl C env)) (fun y s₄ => G i y ∧ Keeps s₃ s₄) E' s₃)
    (hQ : ∀ D s' ys, s.heap.get? D = none → s'.heap.PlainList D ys → Paired G ((List.range n).filter pz) ys.toList → Keeps s s' → Q (.ref D) s')
    (hs : ∀ x, foldedSetIterable iter env x = pure x := by intro _; rfl) :
    wpAny (model PG w) A (eval (.ListComp elt [⟨.Name x px, iter, ifs, 0⟩] scope pos) env) Q E s := by
  refine wpAny_ListComp_free (pOf a pz) (fOf a G) hclos hcell hkind hnames hx (hiter _ fun s₁ t u k => ?_) hs
  have k1 := keeps_ext k
  refine comp_call2 (Q := Q) pz G n hh ha ha' hb hb' hn hnz ?_ ?_ ?_
  · intro C i tk s₃ m₃ E' hC hi hN hm k3
    exact tests C i tk s₃ m₃ E' hi hN hm fun c o e => k3 c o (k1 c o e)
  · intro C i tk s₃ m₃ E' hC hi hp hN hm k3
    exact helt C i tk s₃ m₃ E' hi hp hN hm fun c o e => k3 c o (k1 c o e)
  · intro D h' tk ys hD hpl hP k3
    refine hQ D _ ys ?_ hpl hP (ktr k ⟨h', tk, rfl, k3⟩)
    cases q : s.heap.get? D with
    | none => rfl
    | some o => exact absurd hD (by rw [k1 D o q]; nofun)
/-- a comprehension over range(n) -/
theorem lc1 {x : Str} {px pos : Pos} {iter elt : Expr} {ifs : List Expr} {scope : Scope} {cl : List (Str × Addr)} {Q : Value → Shared → Prop} (pz : Nat → Bool) (G : Nat → Value → Prop) (n : Nat)
    (hclos : closureFor scope env = pure cl) (hcell : ∀ y ∈ scope.names, y.2 ≠ .cell) (hkind : scope.kind = .function)
    (hnames : ∀ y ∈ scope.names, y.2 = .local → scope.names.lookup y.1 = some .local) (hx : scope.names.lookup x = some .local)
    (hh : A.handled = none) (hnz : n ≤ sizeLine)
    (hiter : ∀ Q' : Value → Shared → Prop, (∀ s₁ u, Keeps s s₁ → wpAny (model PG w) A (call (.type "range") [.int (n : Int) u]) Q' E s₁) → wpAny (model PG w) A (eval iter env) Q' E s)
    (tests : ∀ C i tk s₃ m₃ E', i < n → s₃.heap.Ns C m₃ → m₃ x = some (.int (i : Nat) tk) → Ext s.heap s₃.heap →
      wpAny (model PG w) A (forIn ifs true fun c r => if r = true then do let ok ← isTrue c (compEnvC scope cl C env) (eval c (compEnvC scope cl C env)); pure (ForInStep.yield ok) else pure (ForInStep.yield r))
      (fun ok s₄ => ok = pz i ∧ Keeps s₃ s₄) E' s₃)
    (helt : ∀ C i tk s₃ m₃ E', i < n → pz i = true → s₃.heap.Ns C m₃ → m₃ x = some (.int (i : Nat) tk) → Ext s.heap s₃.heap →
      wpAny (model PG w) A (eval elt (compEnvC scope cl C env)) (fun y s₄ => G i y ∧ Keeps s₃ s₄) E' s₃)
    (hQ : ∀ D s' ys, s.heap.get? D = none → s'.heap.PlainList D ys → Paired G ((List.range n).filter pz) ys.toList → Keeps s s' → Q (.ref D) s')
    (hs : ∀ x, foldedSetIterable iter env x = pure x := by intro _; rfl) :
    wpAny (model PG w) A (eval (.ListComp elt [⟨.Name x px, iter, ifs, 0⟩] scope pos) env) Q E s := by
  refine wpAny_ListComp_free (pOf 0 pz) (fOf 0 G) hclos hcell hkind hnames hx (hiter _ fun s₁ u k => ?_) hs
  have k1 := keeps_ext k
  have hz : sizeLine = 2 ^ 24 := rfl
  refine comp_call1 (Q := Q) pz G n hh (by omega) (by omega) (by omega) hnz ?_ ?_ ?_
  · intro C i tk s₃ m₃ E' hC hi hN hm k3
    exact tests C i tk s₃ m₃ E' hi hN hm fun c o e => k3 c o (k1 c o e)
  · intro C i tk s₃ m₃ E' hC hi hp hN hm k3
    exact helt C i tk s₃ m₃ E' hi hp hN hm fun c o e => k3 c o (k1 c o e)
  · intro D h' tk ys hD hpl hP k3
    refine hQ D _ ys ?_ hpl hP (ktr k ⟨h', tk, rfl, k3⟩)
    cases q : s.heap.get? D with
    | none => rfl
    | some o => exact absurd hD (by rw [k1 D o q]; nofun)
end
end Mine

namespace Mine
theorem slice_take (l : List Bool) (j : Int) (h : 0 ≤ j ∧ j ≤ l.length) : Txt.slice (bw l) none (some j) = bw (l.take j.toNat) := by
  have e := eq_of_beq (slice_closes_to (x := bw l) (j := j) (by simpa [bw] using h))
  rw [e]
  simp [bw, List.map_take]
theorem slice_drop (l : List Bool) (j : Int) (h : 0 ≤ j ∧ j ≤ l.length) : Txt.slice (bw l) (some j) none = bw (l.drop j.toNat) := by
  have e := eq_of_beq (slice_closes_from (x := bw l) (i := j) (by simpa [bw] using h))
  rw [e]
  have h2 : (↑((bw l).cps.toList.length) - j).toNat = ((bw l).cps.toList.drop j.toNat).length := by simp [bw]; omega
  first
    | (rw [h2, List.take_length]; simp [bw, List.map_drop])
    | (simp [bw, List.map_drop]; omega)
section
variable {w : World} {M : Model} {A : Around} {E : Value → Shared → Prop} {s : Shared} {t : Tok} {x : Str} {value slice : Expr} {Q : Value → Shared → Prop}
theorem kextH {h₀ : Heap} : KeptH (fun h => Ext h₀ h) := fun _ ob k b o e => Heap.get?_push_of_some _ (k b o e)
theorem sl_ns {j : Int} {uj : Tok} (hsz : x.length ≤ sizeLine) (h : ∀ h' t' k, Ext s.heap h' → Q (.str (Txt.slice x none (some j)) t') { s with heap := h', toks := k })
    (hs : subscripted slice false (.str x t) (.ref s.heap.objs.size) = operate [.ref s.heap.objs.size, .str x t] (getItem (.str x t) (.ref s.heap.objs.size)) := by with_unfolding_all rfl)
    (ht : ∀ r, letTemporaryGo value (.str x t) r = pure () := by intro _; with_unfolding_all rfl) :
    wpAny (model PG w) A (subscriptTail value slice (.str x t) (.ref s.heap.objs.size)) Q E { s with heap := s.heap.push { cls := .type "slice", data := .fields #[.none, .int j uj, .none] } } :=
  tail_of_ItemOn (SBH.sliceItem_ns (P := fun h => Ext s.heap h) kextH (fun _ _ e => e) h hsz) hs ht
theorem sl_sn {j : Int} {uj : Tok} (hsz : x.length ≤ sizeLine) (h : ∀ h' t' k, Ext s.heap h' → Q (.str (Txt.slice x (some j) none) t') { s with heap := h', toks := k })
    (hs : subscripted slice false (.str x t) (.ref s.heap.objs.size) = operate [.ref s.heap.objs.size, .str x t] (getItem (.str x t) (.ref s.heap.objs.size)) := by with_unfolding_all rfl)
    (ht : ∀ r, letTemporaryGo value (.str x t) r = pure () := by intro _; with_unfolding_all rfl) :
    wpAny (model PG w) A (subscriptTail value slice (.str x t) (.ref s.heap.objs.size)) Q E { s with heap := s.heap.push { cls := .type "slice", data := .fields #[.int j uj, .none, .none] } } :=
  tail_of_ItemOn (SBH.sliceItem_sn (P := fun h => Ext s.heap h) kextH (fun _ _ e => e) h hsz) hs ht
end
theorem boot_range : bootBuiltins (Str.ofString "range") = some (.type "range") := by kernel_rfl
theorem boot_len : bootBuiltins (Str.ofString "len") = some (.builtin "len") := by kernel_rfl
theorem boot_sum : bootBuiltins (Str.ofString "sum") = some (.builtin "sum") := by kernel_rfl
theorem boot_int : bootBuiltins (Str.ofString "int") = some (.type "int") := by kernel_rfl
theorem boot_enumerate : bootBuiltins (Str.ofString "enumerate") = some (.type "enumerate") := by kernel_rfl
section
variable {w : World} {M : Model} {A : Around} {E : Value → Shared → Prop} {s : Shared} {env : Env} {x : Str} {pos : Pos} {v : Value} {Q : Value → Shared → Prop}
theorem gn (G : Gd w s.heap) (e : nsIn (KK w) mainGlobals x = some (some v)) (h : Q v s)
    (hk : env.scope.kind = .function := by with_unfolding_all rfl) (hx : env.kindOf x = some .globalImplicit := by with_unfolding_all rfl) (hg : env.globals = mainGlobals := by with_unfolding_all rfl) (hd : (x == ("__debug__" : Str)) = false := by decide) :
    wpAny M A (eval (.Name x pos) env) Q E s := by
  obtain ⟨mg, g⟩ := G.g
  exact Name_function_global hk hx (loadGlobal_global (hg ▸ g) (mg_of G.X g e) h) hd
theorem bn (G : Gd w s.heap) (e : nsIn (KK w) mainGlobals x = some none) (hv : bootBuiltins x = some v) (hn : x ≠ "__name__") (h : Q v s)
    (hk : env.scope.kind = .function := by with_unfolding_all rfl) (hx : env.kindOf x = some .globalImplicit := by with_unfolding_all rfl) (hg : env.globals = mainGlobals := by with_unfolding_all rfl) (hb : env.builtins = builtinsNs := by with_unfolding_all rfl) (hd : (x == ("__debug__" : Str)) = false := by decide) :
    wpAny M A (eval (.Name x pos) env) Q E s := by
  obtain ⟨mg, g⟩ := G.g
  obtain ⟨mb, b, r⟩ := G.b
  exact Name_function_global hk hx (loadGlobal_builtin (hg ▸ g) (mg_none_of G.X g e) (hb ▸ b) ((r x hn).trans hv) h) hd
theorem no_range : nsIn (KK w) mainGlobals (Str.ofString "range") = some none := rfl
theorem no_len : nsIn (KK w) mainGlobals (Str.ofString "len") = some none := rfl
theorem no_sum : nsIn (KK w) mainGlobals (Str.ofString "sum") = some none := rfl
theorem no_int : nsIn (KK w) mainGlobals (Str.ofString "int") = some none := rfl
theorem no_enumerate : nsIn (KK w) mainGlobals (Str.ofString "enumerate") = some none := rfl
theorem is_depth : nsIn (KK w) mainGlobals (Str.ofString "_law_depth") = some (some (.ref 72)) := rfl
theorem is_never : nsIn (KK w) mainGlobals (Str.ofString "_law_never_back") = some (some (.ref 77)) := rfl
theorem is_held : nsIn (KK w) mainGlobals (Str.ofString "_law_held") = some (some (.ref 82)) := rfl
theorem is_check : nsIn (KK w) mainGlobals (Str.ofString "_check_parenthesis") = some (some (.ref 52)) := rfl
theorem is_strip : nsIn (KK w) mainGlobals (Str.ofString "_strip_quoted_realnames") = some (some (.ref 45)) := rfl
theorem is_iter : nsIn (KK w) mainGlobals (Str.ofString "_iter_escaped_chars") = some (some (.ref 38)) := rfl
end
section
variable {w : World} {A : Around} {E : Value → Shared → Prop} {s : Shared} {env : Env} {l : List Bool} {e : Expr} {y : Str} {py p pos : Pos} {Q : Value → Shared → Prop}
theorem sub_to (hl : l.length ≤ 2 ^ 20) (h : wpAny (model PG w) A (eval (.Name y py) env) (fun v s₁ => ∃ t, v = .str (bw l) t ∧ wpAny (model PG w) A (eval e env) (fun u s₂ => ∃ j tj, u = .int j tj ∧ (0 ≤ j ∧ j ≤ l.length) ∧ ∀ s₃ t', Keeps s₂ s₃ → Q (.str (bw (l.take j.toNat)) t') s₃) E s₁) E s) :
    wpAny (model PG w) A (eval (.Subscript (.Name y py) (.Slice none (some e) none p) pos) env) Q E s := by
  refine Subscript_ (wpAny_mono h (fun v s₁ h₁ => ?_) fun _ _ x => x)
  obtain ⟨t, rfl, h₁⟩ := h₁
  refine wpAny_Slice (evalPart_none_step (evalPart_some_step (wpAny_mono h₁ (fun u s₂ h₂ => evalPart_none_step ?_) fun _ _ x => x)))
  obtain ⟨j, tj, rfl, hj, h₂⟩ := h₂
  have hz : sizeLine = 2 ^ 24 := rfl
  refine sl_ns (by rw [bw_length]; omega) fun h' t' k kx => ?_
  rw [slice_take l j hj]
  exact h₂ _ _ ⟨h', k, rfl, kx⟩
theorem sub_from (hl : l.length ≤ 2 ^ 20) (h : wpAny (model PG w) A (eval (.Name y py) env) (fun v s₁ => ∃ t, v = .str (bw l) t ∧ wpAny (model PG w) A (eval e env) (fun u s₂ => ∃ j tj, u = .int j tj ∧ (0 ≤ j ∧ j ≤ l.length) ∧ ∀ s₃ t', Keeps s₂ s₃ → Q (.str (bw (l.drop j.toNat)) t') s₃) E s₁) E s) :
    wpAny (model PG w) A (eval (.Subscript (.Name y py) (.Slice (some e) none none p) pos) env) Q E s := by
  refine Subscript_ (wpAny_mono h (fun v s₁ h₁ => ?_) fun _ _ x => x)
  obtain ⟨t, rfl, h₁⟩ := h₁
  refine wpAny_Slice (evalPart_some_step (wpAny_mono h₁ (fun u s₂ h₂ => evalPart_none_step (evalPart_none_step ?_)) fun _ _ x => x))
  obtain ⟨j, tj, rfl, hj, h₂⟩ := h₂
  have hz : sizeLine = 2 ^ 24 := rfl
  refine sl_sn (by rw [bw_length]; omega) fun h' t' k kx => ?_
  rw [slice_drop l j hj]
  exact h₂ _ _ ⟨h', k, rfl, kx⟩
end
section
variable {w : World} {A : Around} {E : Value → Shared → Prop} {s : Shared} {env : Env} {pos : Pos} {Q : Value → Shared → Prop}
theorem eq_nil {D : Addr} {ys : Array Value} {ns : List Int} (hu : A.units + 64 < cLine) (hl : s.heap.PlainList D ys) (hi : IntsAre ys.toList ns) (h : ∀ s', Keeps s s' → Q (.bool ns.isEmpty) s') :
    wpAny (model PG w) A (eval (.List [] pos) env) (fun b s₂ => wpAny (model PG w) A (compareOp .Eq (.ref D) b) Q E s₂) E s := by
  refine List_ (spliced_none (wpAny_newObj_type ?_ (by size_fits)))
  have k : Ext s.heap (s.heap.push { cls := .type "list", data := .seq ([] : List Value).toArray }) := fun b o e => Heap.get?_push_of_some _ e
  obtain ⟨o, ho, r⟩ := hl.isList
  refine cmp_ofEq (eq_intsK (vs := ys.toList) (us := []) ⟨o, k _ _ ho, by simpa using r⟩ hi ⟨_, Heap.get?_push_size _ rfl, rfl, _, rfl⟩ .nil hu ?_)
  have e : decide (ns = []) = ns.isEmpty := by cases ns <;> rfl
  rw [e]
  exact h _ ⟨_, _, rfl, k⟩
end
end Mine

namespace Mine
section
variable {w : World} {A : Around} {E : Value → Shared → Prop} {s : Shared} {t : Tok} {l : List Bool}
def nbp (l : List Bool) (i : Nat) : Bool := decide (dep (l.take (1 + i)) ≤ 0)
def nb (l : List Bool) : Bool := ((List.range l.length).filter (nbp l)).isEmpty

theorem never_back_call {Q : Value → Shared → Prop} (ok : Ok A 6) (G : Gd w s.heap) (hl : l.length ≤ 2 ^ 20)
    (h : ∀ s', Keeps s s' → Q (.bool (nb l)) s') : wpAny (model PG w) A (call (.ref 77) [.str (bw l) t]) Q E s := by
  have hsz : sizeLine = 2 ^ 24 := rfl
  refine wpAny_call (call_cells_ret (binds := [(Str.ofString "word", .str (bw l) t)]) (by have := ok.dp; omega) (G.X 77 _ rfl) rfl G.lim (codeRec_of G.X rfl) rfl
    (kindsX rfl _) fun h₁ tk F C => ?_)
  have G1 := G.ext F.keep
  have hcell : h₁.IsCell (s.heap.objs.size + 1) (some (.str (bw l) t)) := C.cell (Str.ofString "word") _ rfl
  refine wpAny_execs_cons (wpAny_Return_some (wpAny_Compare1 ?_))
  refine lc2 1 (l.length + 1) (nbp l) (fun i y => ∃ t, y = .int (1 + i) t) l.length (cl := [(Str.ofString "word", s.heap.objs.size + 1)]) rfl (by decide) rfl (by decide) (by decide)
    ok.hh (by decide) (by decide) (by omega) (by omega) (by omega) (by omega) ?_ ?_ ?_ ?_
  · intro Q' hk
    refine Call_ ?_
    with_reducible refine bn G1 no_range boot_range (by decide) ?_
    refine PyProof.Rows.callWith_type1 (spliced_more (wpAny_Constant_int (spliced_more (wpAny_BinOp (Call_ ?_)))))
    with_reducible refine bn G1 no_len boot_len (by decide) ?_
    refine PyProof.Rows.callWith_builtin1 (spliced_more (ldC C rfl rfl (spliced_none ?_)))
    refine len_str (by rw [bw_length]; omega) (wpAny_Constant_int (add_int (spliced_none ?_)))
    rw [bw_length]
    exact hk _ _ _ ⟨_, _, rfl, fun _ _ e => e⟩
  · intro Cn i tki s₃ m₃ E' hi hN hm k3
    have G3 : Gd w s₃.heap := G1.ext k3
    refine wpAny_tests_one (wpAny_isTrue_Compare1 (Call_ ?_))
    with_reducible refine gn G3 is_depth ?_
    refine callWith_K (K := KK w) G3.X rfl (spliced_more (sub_to hl ?_))
    refine wpAny_Name (wpAny_loadName_cell rfl rfl rfl (hcell.keeps k3) ⟨t, rfl, ?_⟩) (by decide)
    refine wpAny_Name (wpAny_loadName_local rfl rfl hN hm ⟨_, _, rfl, by omega, fun s₄ t' k4 => ?_⟩) (by decide)
    have G4 := G3.ext (keeps_ext k4)
    refine spliced_none ⟨G4.X, ?_⟩
    refine law_depth_call (ok.deeper.mono (by decide)) G4 (by rw [List.length_take]; omega) fun tk s₅ k5 => ?_
    refine wpAny_Constant_int (le_int ?_)
    refine wpAny_truthy_bool ⟨?_, ktr k4 (ktr k5 ⟨_, _, rfl, fun _ _ e => e⟩)⟩
    unfold nbp
    rw [show (1 + (i : Int)).toNat = 1 + i from by omega]
  · intro Cn i tki s₃ m₃ E' hi hp hN hm k3
    refine wpAny_Name (wpAny_loadName_local rfl rfl hN hm ⟨⟨_, rfl⟩, krefl _⟩) (by decide)
  · intro D s' ys hD hpl hP k3
    refine eq_nil (by have := ok.un; show A.units + 3 + 64 < cLine; omega) hpl (ints_paired hP) fun s₂ k4 => ?_
    have e : (((List.range l.length).filter (nbp l)).map fun (i : Nat) => (1 : Int) + i).isEmpty = nb l := by
      unfold nb; rw [List.isEmpty_map]
    rw [e]
    have k5 := ktr k3 k4
    obtain ⟨h', tk', rfl, k⟩ := k5
    exact h _ ⟨_, _, rfl, fun b o e => k b o (F.keep b o e)⟩
def hdp (l : List Bool) (i : Nat) : Bool := decide (dep (l.take (1 + i)) < 0)
def held (l : List Bool) : Bool := (dep l == 0) && ((List.range l.length).filter (hdp l)).isEmpty

theorem held_call {Q : Value → Shared → Prop} (ok : Ok A 6) (G : Gd w s.heap) (hl : l.length ≤ 2 ^ 20)
    (h : ∀ s', Keeps s s' → Q (.bool (held l)) s') : wpAny (model PG w) A (call (.ref 82) [.str (bw l) t]) Q E s := by
  have hsz : sizeLine = 2 ^ 24 := rfl
  refine wpAny_call (call_cells_ret (binds := [(Str.ofString "word", .str (bw l) t)]) (by have := ok.dp; omega) (G.X 82 _ rfl) rfl G.lim (codeRec_of G.X rfl) rfl
    (kindsX rfl _) fun h₁ tk F C => ?_)
  have G1 := G.ext F.keep
  have hcell : h₁.IsCell (s.heap.objs.size + 1) (some (.str (bw l) t)) := C.cell (Str.ofString "word") _ rfl
  refine wpAny_execs_cons (wpAny_Return_some (BoolOp_and (wpAny_Compare1 (Call_ ?_))))
  with_reducible refine gn G1 is_depth ?_
  refine callWith_K (K := KK w) G1.X rfl (spliced_more (ldC C rfl rfl (spliced_none ⟨G1.X, ?_⟩)))
  refine law_depth_call (ok.deeper.mono (by decide)) G1 (by omega) fun tk s₅ k5 => ?_
  refine wpAny_Constant_int (eq_int (wpAny_truthy_bool ?_))
  have k6 := ktr (s := { s with heap := h₁, toks := _ }) k5 (s'' := { s₅ with toks := s₅.toks + 1 }) ⟨_, _, rfl, fun _ _ e => e⟩
  generalize { s₅ with toks := s₅.toks + 1 } = s₆ at k6 ⊢
  have k7 : Ext h₁ s₆.heap := keeps_ext k6
  cases h0 : (dep l == 0)
  rotate_left
  · rw [if_pos rfl]
    refine BoolOp_one (wpAny_Compare1 ?_)
    have C6 := C.keeps k7
    have G6 := G1.ext k7
    refine lc2 1 (l.length + 1) (hdp l) (fun i y => ∃ t, y = .int (1 + i) t) l.length (cl := [(Str.ofString "word", s.heap.objs.size + 1)]) rfl (by decide) rfl (by decide) (by decide)
      ok.hh (by decide) (by decide) (by omega) (by omega) (by omega) (by omega) ?_ ?_ ?_ ?_
    · intro Q' hk
      refine Call_ ?_
      with_reducible refine bn G6 no_range boot_range (by decide) ?_
      refine PyProof.Rows.callWith_type1 (spliced_more (wpAny_Constant_int (spliced_more (wpAny_BinOp (Call_ ?_)))))
      with_reducible refine bn G6 no_len boot_len (by decide) ?_
      refine PyProof.Rows.callWith_builtin1 (spliced_more (ldC C6 rfl rfl (spliced_none ?_)))
      refine len_str (by rw [bw_length]; omega) (wpAny_Constant_int (add_int (spliced_none ?_)))
      rw [bw_length]
      exact hk _ _ _ ⟨_, _, rfl, fun _ _ e => e⟩
    · intro Cn i tki s₃ m₃ E' hi hN hm k3
      have G3 : Gd w s₃.heap := G6.ext k3
      refine wpAny_tests_one (wpAny_isTrue_Compare1 (Call_ ?_))
      with_reducible refine gn G3 is_depth ?_
      refine callWith_K (K := KK w) G3.X rfl (spliced_more (sub_to hl ?_))
      refine wpAny_Name (wpAny_loadName_cell rfl rfl rfl ((hcell.keeps k7).keeps k3) ⟨t, rfl, ?_⟩) (by decide)
      refine wpAny_Name (wpAny_loadName_local rfl rfl hN hm ⟨_, _, rfl, by omega, fun s₄ t' k4 => ?_⟩) (by decide)
      have G4 := G3.ext (keeps_ext k4)
      refine spliced_none ⟨G4.X, ?_⟩
      refine law_depth_call (ok.deeper.mono (by decide)) G4 (by rw [List.length_take]; omega) fun tk s₅ k5 => ?_
      refine wpAny_Constant_int (lt_int ?_)
      refine wpAny_truthy_bool ⟨?_, ktr k4 (ktr k5 ⟨_, _, rfl, fun _ _ e => e⟩)⟩
      unfold hdp
      rw [show (1 + (i : Int)).toNat = 1 + i from by omega]
    · intro Cn i tki s₃ m₃ E' hi hp hN hm k3
      refine wpAny_Name (wpAny_loadName_local rfl rfl hN hm ⟨⟨_, rfl⟩, krefl _⟩) (by decide)
    · intro D s' ys hD hpl hP k3
      refine eq_nil (by have := ok.un; show A.units + 3 + 64 < cLine; omega) hpl (ints_paired hP) fun s₂ k4 => ?_
      have e : (((List.range l.length).filter (hdp l)).map fun (i : Nat) => (1 : Int) + i).isEmpty = held l := by
        unfold held; rw [List.isEmpty_map, h0, Bool.true_and]
      rw [e]
      have k5 := ktr k6 (ktr k3 k4)
      obtain ⟨h', tk', rfl, k⟩ := k5
      exact h _ ⟨_, _, rfl, fun b o e => k b o (F.keep b o e)⟩
  · rw [if_neg Bool.false_ne_true]
    have e : held l = false := by unfold held; rw [h0]; rfl
    have h := h
    rw [e] at h
    obtain ⟨h', tk', rfl, k⟩ := k6
    exact h _ ⟨_, _, rfl, fun b o e => k b o (F.keep b o e)⟩
end
end Mine

namespace Mine
section
variable {w : World} {A : Around} {E : Value → Shared → Prop} {s : Shared}
/-- one more out of a generator of a def; what is left behind it is bare -/
theorem next_gen {a : Addr} {g n : Nat} {gs : GenState} {P : Nat → Shared → Shared → Prop} {Y : Protocol} {Q : Option Value → Shared → Prop} (hh : A.handled = none)
    (hl : s.heap.NoLimit) (hroom : A.depth < recursionLimit) (hg : s.heap.IsGen a g) (hgs : s.gens[g]? = some gs)
    (hgo : gs.Goes (model PG w) A.in1 (fun n s₀ r s₁ => r = .ok (.ret .none) ∧ P n s₀ s₁) Y n (.send .none) (s.setGen g .running))
    (hY : ∀ v s₁ gs', gs'.bare = true → Y (n - 1) (s.setGen g .running) v s₁ (fun r' s'' => match n with
        | 0 => False
        | m + 1 => gs'.Goes (model PG w) A.in1 (fun n s₀ r s₁ => r = .ok (.ret .none) ∧ P n s₀ s₁) Y m r' s'') → Q (some v) (s₁.setGen g gs'))
    (hP : ∀ s₁, P n (s.setGen g .running) s₁ → ∀ h', Ext s₁.heap h' → Q none { s₁.setGen g .finished with heap := h' }) :
    wpAny (model PG w) A (pyNext (.ref a)) Q E s := by
  unfold pyNext
  refine wpAny_bind (wpAny_attempt (wpAny_callSpecial?_slot (name := Str.ofString "__next__") hg.typeIs slot_gen_next
    (wpAny_call_entry slot_gen_next hg.typeIs entry_gen_next ?_ (args_gen_next _))))
  show wpAny _ _ (Builtin.Generator.genWake (.ref a) (.send .none)) _ _ s
  unfold Builtin.Generator.genWake
  refine wpAny_bind (wpAny_holding (wpAny_genNumber hg (wpAny_bind (wpAny_genState hgs ?_))))
  cases gs with
  | running => exact hgo.elim
  | finished => exact hgo.elim
  | _ =>
    refine wpAny_bind (wpAny_roomToWake hl hroom ?_)
    show wpAny _ _ (.resume g (.send .none) [] _) _ _ s
    refine wpAny_resumeQ hgs hgo (fun x s₁ hx => ?_) (fun v s₁ gs' hb hv => ?_)
    · obtain ⟨rfl, hp⟩ := hx
      show wpAny _ _ (newExc (.type "StopIteration") [] >>= _) _ _ _
      refine wpAny_bind ?_
      simp only [newExc, newTuple]
      refine wpAny_bind (wpAny_newObj_type ?_ (by size_fits))
      refine wpAny_bind (m := firstArgMember _ _) (wpAny_of_eq (a := Value.none) (by first | rfl | (simp only [firstArgMember]; rfl)) ?_)
      refine wpAny_newObj_type ?_ (by size_fits)
      simp only [raiseNew]
      refine wpAny_bind (wpAny_bind (wpAny_handled ?_))
      rw [show A.in1.handled = none from hh]
      refine wpAny_throw ?_
      refine wpAny_bind (wpAny_isInstance (T := "StopIteration") (b := true) ⟨_, Heap.get?_push_size _ rfl, rfl⟩ isSubtype_stop ?_)
      exact wpAny_pure (hP s₁ hp _ fun b o hb => Heap.get?_push_of_some _ (Heap.get?_push_of_some _ hb))
    · exact wpAny_pure ⟨v, rfl, wpAny_pure (hY v s₁ gs' hb hv)⟩
end

section
variable {M : Model} {A : Around} {R : GenEnd} {Y : Protocol} {n : Nat} {s₀ : Shared} {c : Code} {fs : List Frame} {s : Shared} {env : Env}
  {K : Flow → Sem PySem.Fin} {H : Value → Sem PySem.Fin} {gd : Bool → Bool} {lv : List Value → List Value}
theorem seg_If {test : Expr} {body orelse : List Stmt} {pos : Pos}
    (h : wpAny M (A.over c fs) (isTrue test env (eval test env)) (fun b s' => Seg M A R Y n s₀ c ((if b = true then execs body env else execs orelse env).wrap K H gd lv) fs s')
      (fun x s' => Seg M A R Y n s₀ c (H x) fs s') s) : Seg M A R Y n s₀ c ((exec (.If test body orelse pos) env).wrap K H gd lv) fs s := by
  rw [exec_If]
  show Seg M A R Y n s₀ c (.at pos fun _ => ((isTrue test env (eval test env) >>= fun b => if b = true then execs body env else execs orelse env)).wrap K H gd lv) fs s
  refine seg_at ?_
  rw [Sem.bind_eq_wrap', Sem.wrap_wrap]
  exact seg_wrap h

/-- what stands on the frames above while a for of a generator goes -/
def forBack (env : Env) (K : Flow → Sem PySem.Fin) (H : Value → Sem PySem.Fin) (gd : Bool → Bool) (lv : List Value → List Value) : Result → Sem PySem.Fin :=
  fun r => ((match r with | .ok f => (.pure f : Sem Flow) | .error e => .raise e).onRaise fun (x : Value) => do
        if (← field x 1) == Value.none then unsupported "frame.own-activation:exception-without-traceback"
        setFlight x env.frame).wrap K H gd lv

theorem seg_For {target iter : Expr} {body : List Stmt} {pos : Pos} (hs : ∀ x, foldedSetIterable iter env x = pure x)
    (h : wpAny M (A.over c fs) (eval iter env) (fun x s₁ => wpAny M (A.over c fs) (pyIter x) (fun it s₂ =>
        ∀ p, Seg M A R Y n s₀ (.forLoop target it body [] env) (M.den (.forLoop target it body [] env)) (.ret (forBack env K H gd lv) none (gd false) (lv []) c p [] :: fs) s₂)
        (fun x s' => Seg M A R Y n s₀ c (H x) fs s') s₁) (fun x s' => Seg M A R Y n s₀ c (H x) fs s') s) :
    Seg M A R Y n s₀ c ((exec (.For target iter body [] pos) env).wrap K H gd lv) fs s := by
  rw [exec_For]
  have e : ((do
      standAt pos
      let x ← foldedSetIterable iter env (← eval iter env)
      standAt iter.pos
      runOwn (.forLoop target (← holding [x] (pyIter x)) body [] env) env : Sem Flow)) = .at pos fun _ => (eval iter env >>= fun x => (.at iter.pos fun _ => (holding [x] (pyIter x) >>= fun it => runOwn (.forLoop target it body [] env) env))) := by
    simp only [hs]; rfl
  rw [e]
  show Seg M A R Y n s₀ c (.at pos fun _ => ((eval iter env >>= fun x => (.at iter.pos fun _ => (holding [x] (pyIter x) >>= fun it => runOwn (.forLoop target it body [] env) env)))).wrap K H gd lv) fs s
  refine seg_at ?_
  rw [Sem.bind_eq_wrap', Sem.wrap_wrap]
  refine seg_wrap (wpAny_mono h (fun x s₁ h₁ => ?_) fun _ _ y => y)
  show Seg M A R Y n s₀ c (.at iter.pos fun _ => (holding [x] (pyIter x) >>= fun it => runOwn (.forLoop target it body [] env) env).wrap K H gd lv) fs s₁
  refine seg_at ?_
  rw [Sem.bind_eq_wrap', Sem.wrap_wrap]
  refine seg_wrap (wpAny_holding (wpAny_mono h₁ (fun it s₂ h₂ => ?_) fun _ _ y => y))
  exact seg_call h₂
end
section
variable {w : World} {A : Around} {R : GenEnd} {Y : Protocol} {n : Nat} {s₀ : Shared} {fs : List Frame} {s : Shared} {env : Env}
def turnK (target : Expr) (it : Value) (body : List Stmt) (env : Env) : Flow → Sem PySem.Fin := fun f => match f with
  | .next | .cont => .pure (.again (.forLoop target it body [] env))
  | .brk => .pure (.done .next)
  | .ret v => .pure (.done (.ret v))
def turnH (env : Env) : Value → Sem PySem.Fin := fun x => (do noteFrame x env; theTreesLotGoes x : Sem Unit).wrap (fun _ => .raise x) .raise id id

theorem seg_forLoop {target : Expr} {it : Value} {body : List Stmt}
    (h : wpAny (model PG w) (A.over (.forLoop target it body [] env) fs) (pyNext it) (fun r s' => match r with
      | none => Seg (model PG w) A R Y n s₀ (.forLoop target it body [] env) (.pure (.again (.block [] env))) fs s'
      | some v => wpAny (model PG w) (A.over (.forLoop target it body [] env) fs) (letOwnedTupleGo target it v) (fun _ s'' =>
          wpAny (model PG w) (A.over (.forLoop target it body [] env) fs) (assign target env v) (fun _ s₃ =>
            Seg (model PG w) A R Y n s₀ (.forLoop target it body [] env) ((execs body env).wrap (turnK target it body env) (turnH env) id id) fs s₃) (fun _ _ => False) s'') (fun _ _ => False) s') (fun _ _ => False) s) :
    Seg (model PG w) A R Y n s₀ (.forLoop target it body [] env) ((model PG w).den (.forLoop target it body [] env)) fs s := by
  show Seg _ A R Y n s₀ _ ((forTurn target it body [] env).onRaise (fun x => do noteFrame x env; theTreesLotGoes x)) fs s
  unfold forTurn
  rw [Sem.onRaise_eq_wrap]
  refine seg_at ?_
  show Seg _ A R Y n s₀ _ (Sem.wrap _ _ _ _ ((pyNext it).onRaise _ >>= _)) fs s
  rw [Sem.bind_eq_wrap', Sem.wrap_wrap]
  refine seg_wrap (wpAny_onRaise (wpAny_mono h (fun r s' hr => ?_) fun _ _ f => f.elim))
  cases r with
  | none => exact hr
  | some v =>
    show Seg _ A R Y n s₀ _ (Sem.wrap _ _ _ _ (letOwnedTupleGo target it v >>= _)) fs s'
    rw [Sem.bind_eq_wrap', Sem.wrap_wrap]
    refine seg_wrap (wpAny_mono hr (fun _ s'' hr => ?_) fun _ _ f => f.elim)
    show Seg _ A R Y n s₀ _ (Sem.wrap _ _ _ _ (assign target env v >>= _)) fs s''
    rw [Sem.bind_eq_wrap', Sem.wrap_wrap]
    refine seg_wrap (wpAny_mono hr (fun _ s₃ hr => ?_) fun _ _ f => f.elim)
    show Seg _ A R Y n s₀ _ (Sem.wrap _ _ _ _ (execs body env >>= _)) fs s₃
    rw [Sem.bind_eq_wrap', Sem.wrap_wrap]
    rw [Sem.wrap_congr (execs body env) _ _ (K' := turnK target it body env) (H' := turnH env) (fun f => by cases f <;> rfl)
      (fun e => by unfold turnH; first | rfl | (show (do noteFrame e env; theTreesLotGoes e : Sem Unit).bind (fun _ => .raise e) = _; rw [Sem.bind_eq_wrap]))]
    exact hr
end
end Mine

namespace Mine
section
variable {w : World} {A : Around} {E : Value → Shared → Prop} {s : Shared} {env : Env}
theorem assign2 {T : Addr} {x1 x2 : Str} {p1 p2 pos : Pos} {k : Nat} {v1 v2 : Value} {m : Str → Option Value} {Q : Unit → Shared → Prop} (hh : A.handled = none) (ht : s.heap.IsTuple T #[v1, v2])
    (h1 : env.kindOf x1 = some .local) (h2 : env.kindOf x2 = some .local) (hp : (env.scope.kind == .class || (env.scope.kind == .module && env.locals != env.globals)) = false) (hn : s.heap.Ns env.locals m)
    (h : ∀ h' tk, h'.Ns env.locals (fun y => if y = x2 then some v2 else if y = x1 then some v1 else m y) → (∀ b o, b ≠ env.locals → s.heap.get? b = some o → h'.get? b = some o) → Q () { s with heap := h', toks := tk }) :
    wpAny (model PG w) A (assign (.Tuple [.Name x1 p1, .Name x2 p2] k pos) env (.ref T)) Q E s := by
  refine wpAny_assign_Tuple hh ht rfl rfl fun h₁ k₁ => ?_
  have hLs : env.locals < s.heap.objs.size := hn.lt
  have hn₁ : h₁.Ns env.locals m := hn.at' fun o e => k₁ _ o (Nat.ne_of_lt hLs) e
  show wpAny (model PG w) A (assignInOrder [assign (.Name x1 p1) env, assign (.Name x2 p2) env] [v1, v2]) _ _ _
  unfold assignInOrder
  refine wpAny_bind (wpAny_holding (wpAny_assign_Name (wpAny_storeName_local h1 hn₁ (fun h₂ hn₂ hs₂ => ?_) hp)))
  unfold assignInOrder
  refine wpAny_bind (wpAny_holding (wpAny_assign_Name (wpAny_storeName_local h2 hn₂ (fun h₃ hn₃ hs₃ => ?_) hp)))
  refine wpAny_pure (h h₃ _ hn₃ fun b o hb e => ?_)
  exact hs₃.extBut b o hb (hs₂.extBut b o hb (k₁ b o (Nat.ne_of_lt (Heap.lt_size e)) e))
end

def Mv (Lg H0 : Nat) (s₀ s₁ : Shared) : Prop := ∃ h' tk, s₁ = { s₀ with heap := h', toks := tk } ∧ ∀ b o, b ≠ Lg → b < H0 → s₀.heap.get? b = some o → h'.get? b = some o
def PY (l : List Bool) (L Lg H0 : Nat) : Protocol := fun k s₀ v s₁ κ => ∃ T b tp u, v = .ref T ∧ l[l.length - 1 - k]? = some b ∧ s₁.heap.IsTuple T #[.int ((l.length - 1 - k : Nat) : Int) tp, .str ⟨#[bc b]⟩ u] ∧ Mv Lg H0 s₀ s₁ ∧
  ∀ s'', (∀ a o, a ≠ L → s₁.heap.get? a = some o → s''.heap.get? a = some o) → κ (.send .none) s''
def GR (Lg H0 : Nat) : GenEnd := fun n s₀ r s₁ => r = .ok (.ret .none) ∧ (n = 0 ∧ Mv Lg H0 s₀ s₁)
theorem Mv.step {Lg H0 : Nat} {s₀ s₁ : Shared} (x : Mv Lg H0 s₀ s₁) {h' : Heap} {tk : Nat} (k : ∀ b o, b ≠ Lg → b < H0 → s₁.heap.get? b = some o → h'.get? b = some o) : Mv Lg H0 s₀ { s₁ with heap := h', toks := tk } := by
  obtain ⟨h₁, tk₁, rfl, k₁⟩ := x
  exact ⟨h', tk, rfl, fun b o h1 h2 e => k b o h1 h2 (k₁ b o h1 h2 e)⟩
theorem Mv.keeps {Lg H0 : Nat} {s₀ s₁ s₂ : Shared} (x : Mv Lg H0 s₀ s₁) (k : Keeps s₁ s₂) : Mv Lg H0 s₀ s₂ := by
  obtain ⟨h', tk, rfl, k⟩ := k
  exact x.step fun b o _ _ e => k b o e
theorem bc_ascii (l : List Bool) : (bw l).cps.all (· < 128) = true := by
  simp only [bw, List.all_toArray, List.all_map, List.all_eq_true]
  intro b _; cases b <;> decide

section
variable {w : World} {A : Around} {env : Env} {fs : List Frame} {body : List Stmt} {p1 p2 pt : Pos} {kk : Nat} {e it L H0 : Nat} {l : List Bool} {t : Tok}

theorem gen_loop (hh : (A.over (.forLoop (.Tuple [.Name (Str.ofString "pos") p1, .Name (Str.ofString "ch") p2] kk pt) (.ref e) body [] env) fs).handled = none)
    (h1 : env.kindOf (Str.ofString "pos") = some .local) (h2 : env.kindOf (Str.ofString "ch") = some .local) (hp : (env.scope.kind == .class || (env.scope.kind == .module && env.locals != env.globals)) = false)
    (he : H0 ≤ e) (hi : H0 ≤ it) (hei : e ≠ it) (hL : L < H0) (hLg : env.locals < H0) (hLL : L ≠ env.locals)
    (hturn : ∀ k s₀ s₃ m i tp u b, Mv env.locals H0 s₀ s₃ → i + (k + 1) = l.length → s₃.heap.Ns env.locals m → m (Str.ofString "escape") = some (.bool false) → m (Str.ofString "pos") = some (.int (i : Nat) tp) →
      m (Str.ofString "ch") = some (.str ⟨#[bc b]⟩ u) → l[i]? = some b →
      (∀ s₄ s'', Keeps s₃ s₄ → (∀ a o, a ≠ L → s₄.heap.get? a = some o → s''.heap.get? a = some o) →
        Seg (model PG w) A (GR env.locals H0) (PY l L env.locals H0) k s'' (.forLoop (.Tuple [.Name (Str.ofString "pos") p1, .Name (Str.ofString "ch") p2] kk pt) (.ref e) body [] env) (.pure (.again (.forLoop (.Tuple [.Name (Str.ofString "pos") p1, .Name (Str.ofString "ch") p2] kk pt) (.ref e) body [] env))) fs s'') →
      Seg (model PG w) A (GR env.locals H0) (PY l L env.locals H0) (k + 1) s₀ (.forLoop (.Tuple [.Name (Str.ofString "pos") p1, .Name (Str.ofString "ch") p2] kk pt) (.ref e) body [] env)
        ((execs body env).wrap (turnK (.Tuple [.Name (Str.ofString "pos") p1, .Name (Str.ofString "ch") p2] kk pt) (.ref e) body env) (turnH env) id id) fs s₃)
    (hend : ∀ s₀ s₁ m, Mv env.locals H0 s₀ s₁ → s₁.heap.Ns env.locals m → m (Str.ofString "escape") = some (.bool false) →
      Seg (model PG w) A (GR env.locals H0) (PY l L env.locals H0) 0 s₀ (.forLoop (.Tuple [.Name (Str.ofString "pos") p1, .Name (Str.ofString "ch") p2] kk pt) (.ref e) body [] env) (.pure (.again (.block [] env))) fs s₁) :
    ∀ k i s₀ s m, i + k = l.length → Mv env.locals H0 s₀ s → s.heap.Ns env.locals m → m (Str.ofString "escape") = some (.bool false) → (∃ old, IsEnum s.heap e it i old) → s.heap.IsStrIter it "str_ascii_iterator" (bw l) t i →
      Seg (model PG w) A (GR env.locals H0) (PY l L env.locals H0) k s₀ (.forLoop (.Tuple [.Name (Str.ofString "pos") p1, .Name (Str.ofString "ch") p2] kk pt) (.ref e) body [] env)
        ((model PG w).den (.forLoop (.Tuple [.Name (Str.ofString "pos") p1, .Name (Str.ofString "ch") p2] kk pt) (.ref e) body [] env)) fs s := by
  generalize hc : Code.forLoop (.Tuple [.Name (Str.ofString "pos") p1, .Name (Str.ofString "ch") p2] kk pt) (.ref e) body [] env = cL at *
  have W := WalksT.enumerateD (prog := PG) (w := w) (A := A.over cL fs) (Draws.strAscii (A := (A.over cL fs).in1) hh it (bw l) t) e hei (fun hm => hei (List.mem_singleton.mp hm)) (List.mem_singleton.mpr rfl)
  rw [bw_size] at W
  have hLe : env.locals ∉ [e, it] := fun hm => by
    rcases List.mem_cons.mp hm with q | hm
    · exact Nat.ne_of_lt (Nat.lt_of_lt_of_le hLg he) q
    · exact Nat.ne_of_lt (Nat.lt_of_lt_of_le hLg hi) (List.mem_singleton.mp hm)
  have out : ∀ {h h' : Heap}, (∀ b o, b ∉ [e, it] → h.get? b = some o → h'.get? b = some o) → ∀ b o, b ≠ env.locals → b < H0 → h.get? b = some o → h'.get? b = some o := fun k b o _ hb x => k b o (fun hm => by
    rcases List.mem_cons.mp hm with q | hm
    · exact Nat.ne_of_lt (Nat.lt_of_lt_of_le hb he) q
    · exact Nat.ne_of_lt (Nat.lt_of_lt_of_le hb hi) (List.mem_singleton.mp hm)) x
  intro k
  induction k with
  | zero =>
    intro i s₀ s m hik M0 hn hesc hE hS
    subst hc
    refine seg_forLoop (W.done s _ _ (by rw [show i = l.length from hik] at hE hS; exact ⟨hE, hS⟩) fun h' tk hk => ?_)
    exact hend _ _ m (M0.step (out hk)) (hn.at' fun o x => hk _ o hLe x) hesc
  | succ k ih =>
    intro i s₀ s m hik M0 hn hesc hE hS
    have ih' := ih (i + 1)
    subst hc
    refine seg_forLoop (W.item i s _ _ (by omega) ⟨hE, hS⟩ fun T vals h₁ tk₁ hPt hT hTup hMid hk₁ => ?_)
    obtain ⟨tp, x, ⟨c, u, hc, rfl⟩, rfl⟩ := hPt
    have hil : i < l.length := by omega
    have hcb : c = bc l[i] := by
      have : (bw l).cps[i]? = some (bc l[i]) := by simp [bw, hil]
      rw [this] at hc; exact (Option.some.inj hc).symm
    subst hcb
    have hn₁ : h₁.Ns env.locals m := hn.at' fun o x => hk₁ _ o hLe x
    have hapart := W.apart i T h₁ hMid
    refine W.go _ _ _ i T _ _ _ hMid fun h₂ hS₂ hk₂ => ?_
    have hn₂ : h₂.Ns env.locals m := hn₁.at' fun o x => hk₂ _ o hLe x
    have hTup₂ : h₂.IsTuple T #[.int i tp, .str ⟨#[bc l[i]]⟩ u] := hTup.at fun o x => hk₂ _ o hapart x
    refine assign2 hh hTup₂ h1 h2 hp hn₂ fun h₃ tk₃ hn₃ hk₃ => ?_
    have hLe' : e ≠ env.locals := fun q => hLe (by rw [q]; exact .head _)
    have hLi' : it ≠ env.locals := fun q => hLe (by rw [q]; exact .tail _ (.head _))
    have hS₃ : (∃ old, IsEnum h₃ e it ((i + 1 : Nat) : Int) old) ∧ h₃.IsStrIter it "str_ascii_iterator" (bw l) t (i + 1) := by
      refine W.frame (i + 1) h₂ h₃ hS₂ fun b hb o x => hk₃ b o (fun q => ?_) x
      rw [q] at hb
      exact hLe (by simpa using hb)
    have M₁ := (M0.step (h' := h₁) (tk := tk₁) (out hk₁)).step (h' := h₂) (tk := tk₁) (out hk₂)
    have M₃ := M₁.step (h' := h₃) (tk := tk₃) fun b o hb _ x => hk₃ b o hb x
    refine hturn k s₀ _ _ i tp u l[i] M₃ hik hn₃ ?_ ?_ ?_ (by simp [hil]) fun s₄ s'' k₄ k'' => ?_
    · rw [if_neg (by decide +kernel), if_neg (by decide +kernel)]; exact hesc
    · rw [if_neg (by decide +kernel), if_pos rfl]
    · rw [if_pos rfl]
    · have x₄ := keeps_ext k₄
      have n4 : s''.heap.Ns env.locals _ := (hn₃.keeps x₄).at' fun o x => k'' _ o (Ne.symm hLL) x
      refine seg_again rfl (ih' s'' s'' _ (by omega) ⟨_, _, rfl, fun _ _ _ _ x => x⟩ n4 ?_ ?_ ?_)
      · rw [if_neg (by decide +kernel), if_neg (by decide +kernel)]; exact hesc
      · obtain ⟨old, q⟩ := hS₃.1
        exact ⟨old, k'' _ _ (Nat.ne_of_gt (Nat.lt_of_lt_of_le hL he)) (x₄ _ _ q)⟩
      · obtain ⟨o, ho, r⟩ := hS₃.2
        exact ⟨o, k'' _ _ (Nat.ne_of_gt (Nat.lt_of_lt_of_le hL hi)) (x₄ _ _ ho), r⟩
end
end Mine

namespace Mine
theorem chr_bs (b : Bool) : ((⟨#[bc b]⟩ : Str) == Str.ofString "\\") = false := by cases b <;> decide +kernel
theorem chr_open (b : Bool) : ((⟨#[bc b]⟩ : Str) == Str.ofString "(") = b := by cases b <;> decide +kernel
theorem chr_shut (b : Bool) : ((⟨#[bc b]⟩ : Str) == Str.ofString ")") = !b := by cases b <;> decide +kernel
theorem Gd.low {w : World} {h₀ h h' : Heap} (G₀ : Gd w h₀) (G : Gd w h) (k : ∀ b o, b < h₀.objs.size → h.get? b = some o → h'.get? b = some o) : Gd w h' := by
  refine ⟨fun a o e => k a o (Heap.lt_size (G₀.X a o e)) (G.X a o e), ?_, ?_, ?_⟩
  · obtain ⟨m₀, n₀⟩ := G₀.g
    obtain ⟨mg, n⟩ := G.g
    exact ⟨mg, n.at' fun o e => k _ o n₀.lt e⟩
  · obtain ⟨m₀, n₀, _⟩ := G₀.b
    obtain ⟨mg, n, r⟩ := G.b
    exact ⟨mg, n.at' fun o e => k _ o n₀.lt e, r⟩
  · obtain ⟨m₀, n₀, _⟩ := G₀.lim
    obtain ⟨mg, n, r⟩ := G.lim
    exact ⟨mg, n.at' fun o e => k _ o n₀.lt e, r⟩
section
variable {w : World} {A : Around} {E : Value → Shared → Prop} {s : Shared} {l : List Bool} {t : Tok}

theorem iter_call {Q : Value → Shared → Prop} (ok : Ok A 2) (G : Gd w s.heap) (hl : l.length ≤ 2 ^ 20)
    (h : ∀ c h' tk, Ext s.heap h' → h'.IsGen (s.heap.objs.size + 1) s.gens.size →
      (∀ (A' : Around) L (s'' : Shared), A'.handled = none → L < s.heap.objs.size → Gd w s''.heap → (∀ b o, b ≠ L → h'.get? b = some o → s''.heap.get? b = some o) →
        (GenState.fresh c).Goes (model PG w) A' (GR s.heap.objs.size s''.heap.objs.size) (PY l L s.heap.objs.size s''.heap.objs.size) l.length (.send .none) s'') →
      Q (.ref (s.heap.objs.size + 1)) { s with heap := h', gens := s.gens.push (.fresh c), toks := tk }) :
    wpAny (model PG w) A (call (.ref 38) [.str (bw l) t]) Q E s := by
  refine wpAny_call (codeAny_call_generator (by have := ok.dp; omega) (G.X 38 _ rfl) rfl rfl rfl rfl (codeRec_of G.X rfl) ?_)
  refine wpAny_of_eq (a := [(Str.ofString "addr", .str (bw l) t)]) rfl ?_
  refine wpAny_newFunctionEnv (by decide) (locs rfl) (fun h₁ hn hsb => ?_) rfl
  have k₁ : Ext s.heap h₁ := fun b o e => hsb.extBut b o (Nat.ne_of_lt (Heap.lt_size e)) (Heap.get?_push_of_some _ e)
  have hsz : h₁.objs.size = s.heap.objs.size + 1 := by rw [hsb.1, Heap.size_push]
  refine ⟨G.lim.keeps k₁, ?_⟩
  dsimp only
  rw [hsz]
  refine h _ _ _ (fun b o e => Heap.get?_push_of_some _ (k₁ b o e)) ⟨_, _, _, by rw [← hsz]; exact Heap.get?_push_size _ rfl, rfl, rfl, rfl⟩ fun A' L s'' hh hL G'' k'' => ⟨rfl, ?_⟩
  have hLL : L ≠ s.heap.objs.size := Nat.ne_of_lt hL
  have hn'' : s''.heap.Ns s.heap.objs.size (fun x => [(Str.ofString "addr", Value.str (bw l) t)].reverse.lookup x) :=
    Heap.Ns.at' (h := h₁) hn fun o e => k'' _ o (Ne.symm hLL) (Heap.get?_push_of_some _ e)
  have hH : s.heap.objs.size < s''.heap.objs.size := hn''.lt
  clear h k'' 
  refine seg_func (seg_execs_cons (seg_wrap (wpAny_Assign_Name (wpAny_Constant_int (wpAny_storeName_local rfl hn'' (fun h₂ hn₂ hs₂ => ?_) rfl)))))
  refine seg_execs_cons (seg_wrap (wpAny_Assign_Name (Constant_bool (wpAny_storeName_local rfl hn₂ (fun h₃ hn₃ hs₃ => ?_) rfl))))
  refine seg_execs_cons (seg_For (fun _ => rfl) ?_)
  have hz₃ : h₃.objs.size = s''.heap.objs.size := by rw [hs₃.1, hs₂.1]
  have k₃ : ∀ b o, b ≠ s.heap.objs.size → s''.heap.get? b = some o → h₃.get? b = some o := fun b o hb e => hs₃.extBut b o hb (hs₂.extBut b o hb e)
  have G₃ : Gd w h₃ := G.low G'' fun b o hb e => k₃ b o (Nat.ne_of_lt hb) e
  refine Call_ ?_
  with_reducible refine bn G₃ no_enumerate Mine.boot_enumerate (by decide) ?_
  refine PyProof.Rows.callWith_type1 (spliced_more (wpAny_Name (wpAny_loadName_local rfl rfl hn₃ rfl (spliced_none ?_)) (by decide)))
  refine call_enumerate_str fun h₄ he hit hz hk₄ => ?_
  refine wpAny_pyIter_enum he fun p => ?_
  have hty : strIterType (bw l) = "str_ascii_iterator" := by unfold strIterType; rw [bc_ascii]; rfl
  rw [hty] at hit
  dsimp only at he hit hz hk₄
  have hn₄ := hn₃.keeps hk₄
  refine gen_loop (e := h₃.objs.size + 1) (it := h₃.objs.size) (L := L) (H0 := s''.heap.objs.size) ?hh rfl rfl rfl (by rw [hz₃]; exact Nat.le_succ _) (Nat.le_of_eq hz₃.symm) (Nat.succ_ne_self _) (Nat.lt_trans hL hH) hH hLL ?_ ?_
    l.length 0 s'' _ _ (Nat.zero_add _) ⟨h₄, _, rfl, fun b o hb _ e => hk₄ b o (k₃ b o hb e)⟩ hn₄ rfl ⟨_, he⟩ hit
  case hh => 
    show (marksOver _ (A'.handled, A'.handled)).1 = none
    rw [hh]; rfl
  · intro k s₀ s₃ m i tp u b M₀ hik hnm me mp mc hlb hk
    refine seg_execs_cons (seg_If (isTrue_plain (wpAny_Name (wpAny_loadName_local rfl rfl hnm me (wpAny_truthy_bool ?_)) (by decide))))
    rw [if_neg Bool.false_ne_true]
    refine seg_execs_cons (seg_If (wpAny_isTrue_Compare1 (wpAny_Name (wpAny_loadName_local rfl rfl hnm mc (Constant_str (PyProof.Rows.eq_str (wpAny_truthy_bool ?_)))) (by decide))))
    rw [chr_bs, if_neg Bool.false_ne_true]
    have hi : l.length - 1 - k = i := by omega
    refine seg_execs_cons (seg_Expr_Yield rfl rfl rfl (Tuple_ (spliced_more (wpAny_Name (wpAny_loadName_local rfl rfl hnm mp (spliced_more (wpAny_Name (wpAny_loadName_local rfl rfl hnm mc (spliced_none
      (wpAny_newObj_type ?_ (by size_fits)))) (by decide)))) (by decide)))))
    intro kap hkap
    have k₄ : Keeps s₃ { s₃ with toks := s₃.toks + 1, heap := s₃.heap.push { cls := .type "tuple", data := .seq [Value.int (i : Nat) tp, Value.str ⟨#[bc b]⟩ u].toArray } } := ⟨_, _, rfl, fun b o e => Heap.get?_push_of_some _ e⟩
    refine ⟨_, b, tp, u, rfl, by rw [hi]; exact hlb, ⟨_, Heap.get?_push_size _ rfl, rfl, _, by rw [hi]⟩, M₀.keeps k₄, fun s₅ k₅ => ?_⟩
    exact hkap .none s₅ (hk _ s₅ k₄ k₅)
  · intro s₀ s₁ m M₀ hnm me
    refine seg_again rfl ?_
    refine seg_leaf (.ok .next) ?_
    show Seg _ A' _ _ _ _ _ (Sem.wrap _ _ _ _ (execs [Stmt.If _ _ _ _] _)) _ _
    refine seg_execs_cons (seg_If (isTrue_plain (wpAny_Name (wpAny_loadName_local rfl rfl hnm me (wpAny_truthy_bool ?_)) (by decide))))
    rw [if_neg Bool.false_ne_true]
    exact seg_end (.ok (.ret .none)) ⟨rfl, rfl, M₀⟩
end
end Mine

namespace Mine
section
variable {w : World} {A : Around} {E : Value → Shared → Prop} {s : Shared} {l : List Bool} {t : Tok}
theorem no_mark (l : List Bool) : (!(!(Builtin.Str.occurrences (bw l) (Str.ofString "\"") 0 (bw l).length 1).isEmpty)) = true := by
  rw [show Str.ofString "\"" = ⟨#[34]⟩ from by decide +kernel, StrLaws.found_one]
  have : 34 ∉ (bw l).cps.toList := by
    simp only [bw, List.mem_map, not_exists, not_and]
    intro b _; cases b <;> decide
  rw [decide_eq_false this]; rfl

theorem strip_call {Q : Value → Shared → Prop} (ok : Ok A 2) (G : Gd w s.heap)
    (h : ∀ s', Keeps s s' → Q (.str (bw l) t) s') : wpAny (model PG w) A (call (.ref 45) [.str (bw l) t]) Q E s := by
  refine wpAny_call (callD (binds := [(Str.ofString "addr", .str (bw l) t)]) (G.X 45 _ rfl) rfl G.lim (by have := ok.dp; omega) (codeRec_of G.X rfl)
    (BindsTo.of_eq rfl) (locs rfl) (by decide) fun h₁ F => ?_)
  refine wpAny_execs_cons (wpAny_If (wpAny_isTrue_Compare1 (Constant_str ?_)))
  refine ld F rfl (PySem.P.notIn_str (wpAny_truthy_bool ?_))
  rw [no_mark, if_pos rfl]
  refine wpAny_execs_cons (wpAny_Return_some (ld F rfl ?_))
  exact h _ ⟨_, _, rfl, F.keep⟩

/-- what _check_parenthesis reckons -/
def chkGo : Int → List Bool → Bool
  | c, [] => c == 0
  | c, true :: r => chkGo (c + 1) r
  | c, false :: r => if c - 1 < 0 then false else chkGo (c - 1) r
def chk (l : List Bool) : Bool := chkGo 0 l

def Aft (s s' : Shared) : Prop := ∃ h' tk g', s' = { s with heap := h', toks := tk, gens := g' } ∧ Ext s.heap h' ∧ (AllBare s.gens → AllBare g')

theorem go_gen {target : Expr} {ga g : Nat} {T : Addr} {Q : Unit → Shared → Prop} (hg : s.heap.IsGen ga g) (h : Q () s) : wpAny (model PG w) A (letOwnedTupleGo target (.ref ga) (.ref T)) Q E s := by
  obtain ⟨o, nm, qn, ho, hc, hd, hsl⟩ := hg
  unfold letOwnedTupleGo
  split
  · refine wpAny_bind (wpAny_load ho ?_)
    rw [hc, hd]
    dsimp only
    rw [if_neg (by simp)]
    exact wpAny_pure h
  · refine wpAny_bind (wpAny_load ho ?_)
    rw [hc, hd]
    dsimp only
    rw [if_neg (by simp)]
    exact wpAny_pure h
  · exact wpAny_pure h
theorem bare_set {gs : Array GenState} {g : Nat} {x : GenState} (h : AllBare gs) (hx : x.bare = true) : AllBare (gs.setIfInBounds g x) := by
  intro y hy
  obtain ⟨i, hi, rfl⟩ := Array.mem_iff_getElem.mp hy
  have hi' : i < gs.size := by simpa using hi
  rw [Array.getElem_setIfInBounds hi']
  split
  · exact hx
  · exact h _ (Array.getElem_mem hi')
theorem bare_push {gs : Array GenState} {x : GenState} (h : AllBare gs) (hx : x.bare = true) : AllBare (gs.push x) := by
  intro y hy
  rcases Array.mem_push.mp hy with q | rfl
  · exact h _ q
  · exact hx
theorem chk_drop {l : List Bool} {n : Nat} {b : Bool} (hn : n + 1 ≤ l.length) (hb : l[l.length - (n + 1)]? = some b) : l.drop (l.length - (n + 1)) = b :: l.drop (l.length - n) := by
  have hlt : l.length - (n + 1) < l.length := by omega
  rw [List.drop_eq_getElem_cons hlt]
  have e : l[l.length - (n + 1)] = b := by rw [List.getElem?_eq_getElem hlt] at hb; exact Option.some.inj hb
  rw [e]
  congr 2
  omega

theorem gen_A {α : Type} {M : Model} {A : Around} {E : Value → Shared → Prop} {s : Shared} {k : Nat} {x : Sem α} {Q : α → Shared → Prop} (ok : Ok A k) (h : ∀ A', Ok A' k → wpAny M A' x Q E s) : wpAny M A x Q E s := h A ok

def CkI (w : World) (A' : Around) (s : Shared) (l : List Bool) (Z : Nat) (h₅ : Heap) (n : Nat) (s' : Shared) : Prop :=
  ∃ h' tk g' m c tp gs, s' = { s with heap := h', toks := tk, gens := g' } ∧ (∀ b o, b ≠ Z → b ≠ s.heap.objs.size → b < h₅.objs.size → h₅.get? b = some o → h'.get? b = some o) ∧ Fr s.heap s.heap.objs.size h' m ∧
    m (Str.ofString "opens") = some (.int c tp) ∧ n ≤ l.length ∧ chkGo c (l.drop (l.length - n)) = chk l ∧ h'.IsGen (Z + 1) s.gens.size ∧ g'[s.gens.size]? = some gs ∧ (AllBare s.gens → AllBare g') ∧
    gs.Goes (model PG w) A'.in1 (GR Z h₅.objs.size) (PY l s.heap.objs.size Z h₅.objs.size) n (.send .none) (({ s with heap := h', toks := tk, gens := g' } : Shared).setGen s.gens.size .running)

theorem check_call {Q : Value → Shared → Prop} (ok : Ok A 6) (G : Gd w s.heap) (hl : l.length ≤ 2 ^ 20)
    (h : ∀ s', Aft s s' → Q (.bool (chk l)) s') : wpAny (model PG w) A (call (.ref 52) [.str (bw l) t]) Q E s := by
  refine wpAny_call (callD (binds := [(Str.ofString "addr", .str (bw l) t)]) (G.X 52 _ rfl) rfl G.lim (by have := ok.dp; omega) (codeRec_of G.X rfl)
    (BindsTo.of_eq rfl) (locs rfl) (by decide) fun h₁ F => ?_)
  refine gen_A ok.deeper fun A' ok' => ?_
  have G1 := G.ext F.keep
  refine wpAny_execs_cons (wpAny_Assign_Name (Call_ ?_))
  with_reducible refine gn G1 is_strip ?_
  refine callWith_K (K := KK w) G1.X rfl (spliced_more (ld F rfl (spliced_none ⟨G1.X, ?_⟩)))
  refine strip_call (ok'.mono (by decide)) G1 fun s₂ k₂ => ?_
  obtain ⟨h₂, tk₂, rfl, k₂⟩ := k₂
  have F2 := F.keeps k₂
  refine st F2 fun h₃ F3 => ?_
  refine wpAny_execs_cons (wpAny_Assign_Name (wpAny_Constant_int (st F3 fun h₄ F4 => ?_)))
  have G4 := G.ext F4.keep
  refine wpAny_execs_cons (wpAny_For (Call_ ?_) (fun _ => rfl))
  with_reducible refine gn G4 is_iter ?_
  refine callWith_K (K := KK w) G4.X rfl (spliced_more (ld F4 rfl (spliced_none ⟨G4.X, ?_⟩)))
  dsimp only
  generalize s.toks + _ + 1 = tk₄
  refine iter_call (ok'.mono (by decide)) G4 hl fun c h₅ tk₅ k₅ hgen hgo => ?_
  refine wpAny_pyIter_gen hgen ?_
  dsimp only at hgen hgo ⊢
  have hL4 : s.heap.objs.size < h₄.objs.size := F4.ns.lt
  have k45 : Ext s.heap h₅ := fun b o e => k₅ b o (F4.keep b o e)
  have hLow : ∀ {b o}, s.heap.get? b = some o → b ≠ h₄.objs.size ∧ b < h₄.objs.size := fun e => by
    have h1 := Heap.lt_size e
    have h2 : s.heap.objs.size ≤ h₄.objs.size := Nat.le_of_lt hL4
    exact ⟨Nat.ne_of_lt (Nat.lt_of_lt_of_le h1 h2), Nat.lt_of_lt_of_le h1 h2⟩
  have hga : h₄.objs.size + 1 < h₅.objs.size := by
    obtain ⟨o, _, _, ho, _⟩ := hgen
    exact Heap.lt_size ho
  have hAd := ok'.dp
  refine codeAny_forLoop_any (CkI w A' s l h₄.objs.size h₅) ?_ l.length ?_
  · intro n s' hI
    obtain ⟨h', tk, g', m, c', tp, gs, rfl, hk, F', hm, hn, hc, hg', hgs, hb, hgoes⟩ := hI
    have G' := G.ext F'.keep
    refine next_gen (Y := PY l s.heap.objs.size h₄.objs.size h₅.objs.size) (P := fun n s₀ s₁ => n = 0 ∧ Mv h₄.objs.size h₅.objs.size s₀ s₁) ok'.hh G'.lim (by omega) hg' hgs hgoes ?_ ?_
    · intro v s₁ gs' hbare hY
      cases n with
      | zero => obtain ⟨_, _, _, _, _, _, _, _, hκ⟩ := hY; exact (hκ s₁ fun _ _ _ e => e).elim
      | succ k =>
        obtain ⟨T, b, tq, u, rfl, hlb, hT, ⟨h₁', tk₁', rfl, hMv⟩, hκ⟩ := hY
        dsimp only [Shared.setGen] at hMv hT hκ ⊢
        have hLg : s.heap.objs.size ≠ h₄.objs.size := Nat.ne_of_lt hL4
        have hL5 : s.heap.objs.size < h₅.objs.size := Nat.lt_trans (Nat.lt_trans hL4 (Nat.lt_succ_self _)) hga
        have F1 : Fr s.heap s.heap.objs.size h₁' m := ⟨F'.ns.at' fun o e => hMv _ o hLg hL5 e, fun b o e => hMv b o (hLow e).1 (Nat.lt_trans (hLow e).2 (Nat.lt_trans (Nat.lt_succ_self _) hga)) (F'.keep b o e), F'.above⟩
        have hg1 : h₁'.IsGen (h₄.objs.size + 1) s.gens.size := let ⟨o, nm, qn, ho, r⟩ := hg'; ⟨o, nm, qn, hMv _ o (Nat.succ_ne_self _) hga ho, r⟩
        refine go_gen hg1 ?_
        refine assign2 ok'.hh hT rfl rfl rfl F1.ns fun h₂' tk₂' n₂ k₂' => ?_
        have F2 : Fr s.heap s.heap.objs.size h₂' _ := ⟨n₂, fun b o e => k₂' b o (Nat.ne_of_lt (Heap.lt_size e)) (F1.keep b o e), F1.above⟩
        have hdrop := chk_drop hn (by rw [← hlb]; congr 1; omega)
        rw [hdrop] at hc
        have hg2 : h₂'.IsGen (h₄.objs.size + 1) s.gens.size := let ⟨o, nm, qn, ho, r⟩ := hg1; ⟨o, nm, qn, k₂' _ o (Nat.ne_of_gt (Nat.lt_trans hL4 (Nat.lt_succ_self _))) ho, r⟩
        have hb2 : AllBare s.gens → AllBare ((g'.setIfInBounds s.gens.size .running).setIfInBounds s.gens.size gs') := fun h => bare_set (bare_set (hb h) rfl) hbare
        have hgs2 : ((g'.setIfInBounds s.gens.size .running).setIfInBounds s.gens.size gs')[s.gens.size]? = some gs' := setGen_self (s := { s with gens := g'.setIfInBounds s.gens.size .running }) (gs := .running) (setGen_self (s := { s with gens := g' }) hgs)
        have step : ∀ c' h₃' m' tk₃' tp', Fr s.heap s.heap.objs.size h₃' m' → m' (Str.ofString "opens") = some (.int c' tp') → chkGo c' (l.drop (l.length - k)) = chk l → Heap.SameBut s.heap.objs.size h₂' h₃' →
            ∃ n', n' < k + 1 ∧ CkI w A' s l h₄.objs.size h₅ n' { s with heap := h₃', toks := tk₃', gens := (g'.setIfInBounds s.gens.size .running).setIfInBounds s.gens.size gs' } := by
          intro c'' h₃' m' tk₃' tp' F3 hm3 hc3 hs3
          refine ⟨k, Nat.lt_succ_self _, h₃', tk₃', _, m', c'', tp', gs', rfl, fun b o h1 h2 h3 e => hs3.extBut b o h2 (k₂' b o h2 (hMv b o h1 h3 (hk b o h1 h2 h3 e))), F3, hm3, by omega, hc3, ?_, hgs2, hb2, ?_⟩
          · exact hg2.sameBut hs3 (Nat.ne_of_gt (Nat.lt_trans hL4 (Nat.lt_succ_self _)))
          · exact hκ _ fun a o ha e => hs3.extBut a o ha (k₂' a o ha e)
        clear hκ hgoes hgo hgs hgs2
        refine wpAny_execs_cons (wpAny_If (wpAny_isTrue_Compare1 (ld F2 (if_pos rfl) (Constant_str (PyProof.Rows.eq_str (wpAny_truthy_bool ?_))))))
        rw [chr_open]
        cases b with
        | true =>
          rw [if_pos rfl]
          refine wpAny_execs_cons (wpAny_AugAssign_Name (ldn F2 (by rw [if_neg (by decide +kernel), if_neg (by decide +kernel)]; exact hm) (wpAny_Constant_int (iadd_int (wpAny_storeName_local rfl F2.ns (fun h₃' hn₃ hs₃ => ?_) rfl)))))
          refine wpAny_execs_nil ?_
          refine wpAny_execs_nil ?_
          exact step (c' + 1) h₃' _ _ _ (F2.set hn₃ hs₃) (if_pos rfl) hc hs₃
        | false =>
          rw [if_neg Bool.false_ne_true]
          refine wpAny_execs_cons (wpAny_If (wpAny_isTrue_Compare1 (ld F2 (if_pos rfl) (Constant_str (PyProof.Rows.eq_str (wpAny_truthy_bool ?_))))))
          rw [chr_shut, if_pos (show (!false) = true from rfl)]
          refine wpAny_execs_cons (wpAny_AugAssign_Name (ldn F2 (by rw [if_neg (by decide +kernel), if_neg (by decide +kernel)]; exact hm) (wpAny_Constant_int (isub_int (wpAny_storeName_local rfl F2.ns (fun h₃' hn₃ hs₃ => ?_) rfl)))))
          have F3 := F2.set hn₃ hs₃
          refine wpAny_execs_cons (wpAny_If (wpAny_isTrue_Compare1 (ld F3 (if_pos rfl) (wpAny_Constant_int (lt_int (wpAny_truthy_bool ?_))))))
          by_cases hneg : c' - 1 < 0
          · rw [decide_eq_true hneg, if_pos rfl]
            refine wpAny_execs_cons (wpAny_Return_some (Constant_bool ?_))
            have e : chk l = false := by rw [← hc]; show (if c' - 1 < 0 then false else _) = false; rw [if_pos hneg]
            rw [← e]
            exact h _ ⟨_, _, _, rfl, F3.keep, hb2⟩
          · rw [decide_eq_false hneg, if_neg Bool.false_ne_true]
            refine wpAny_execs_nil ?_
            refine wpAny_execs_nil ?_
            refine wpAny_execs_nil ?_
            refine wpAny_execs_nil ?_
            refine step (c' - 1) h₃' _ _ _ F3 (if_pos rfl) ?_ hs₃
            rw [← hc]; show _ = (if c' - 1 < 0 then false else _); rw [if_neg hneg]
    · rintro s₁ ⟨rfl, h₁', tk₁', rfl, hMv⟩ h₂' e₂
      dsimp only [Shared.setGen] at hMv e₂ ⊢
      have hLg : s.heap.objs.size ≠ h₄.objs.size := Nat.ne_of_lt hL4
      have hL5 : s.heap.objs.size < h₅.objs.size := Nat.lt_trans (Nat.lt_trans hL4 (Nat.lt_succ_self _)) hga
      have F1 : Fr s.heap s.heap.objs.size h₂' m := ⟨F'.ns.at' fun o e => e₂ _ _ (hMv _ o hLg hL5 e), fun b o e => e₂ _ _ (hMv b o (hLow e).1 (Nat.lt_trans (hLow e).2 (Nat.lt_trans (Nat.lt_succ_self _) hga)) (F'.keep b o e)), F'.above⟩
      have hc' : (c' == 0) = chk l := by rw [← hc, Nat.sub_zero, List.drop_length]; rfl
      refine wpAny_execs_nil ?_
      refine wpAny_execs_cons (wpAny_Return_some (wpAny_Compare1 (ld F1 hm (wpAny_Constant_int (eq_int ?_)))))
      rw [hc']
      exact h _ ⟨_, _, _, rfl, F1.keep, fun h => bare_set (bare_set (hb h) rfl) rfl⟩
  · refine ⟨h₅, tk₅, _, _, 0, _, .fresh c, rfl, fun _ _ _ _ _ e => e, ⟨F4.ns.keeps k₅, k45, F4.above⟩, rfl, Nat.le_refl _, ?_, hgen, ?_, ?_, ?_⟩
    · rw [Nat.sub_self]; rfl
    · exact Array.getElem?_push_size
    · exact fun h => bare_push h rfl
    · refine hgo A'.in1 s.heap.objs.size (({ s with heap := h₅, toks := tk₅, gens := s.gens.push (.fresh c) } : Shared).setGen s.gens.size .running) ok'.hh hL4 ?_ ?_
      · exact G.ext k45
      · exact fun _ _ _ e => e
end
end Mine

namespace Mine
section
variable {w : World} {A : Around} {E : Value → Shared → Prop} {s : Shared} {t : Tok} {l : List Bool} {env : Env}
/-- a comprehension with no test, over whatever walks -/
theorem lcX {x : Str} {px pos : Pos} {iter elt : Expr} {scope : Scope} {cl : List (Str × Addr)} {Q : Value → Shared → Prop} (n : Nat) (P : Nat → Value → Prop) (f : Value → Value → Prop)
    (hclos : closureFor scope env = pure cl) (hcell : ∀ y ∈ scope.names, y.2 ≠ .cell) (hkind : scope.kind = .function)
    (hnames : ∀ y ∈ scope.names, y.2 = .local → scope.names.lookup y.1 = some .local) (hx : scope.names.lookup x = some .local) (hnz : n ≤ sizeLine)
    (hiter : wpAny (model PG w) A (eval iter env) (fun xv s₁ => wpAny (model PG w) A (pyIter xv) (fun it s₂ => Keeps s s₂ ∧ ∃ I fp wr St, it = .ref I ∧ Walks PG w A I fp wr n P St ∧ St 0 s₂.heap ∧
      (∀ b ∈ fp, b < s₂.heap.objs.size) ∧ (∀ b ∈ wr, s.heap.get? b = none)) E s₁) E s)
    (helt : ∀ C i v s₃ m₃ E', P i v → s₃.heap.Ns C m₃ → m₃ x = some v → Ext s.heap s₃.heap →
      wpAny (model PG w) A (eval elt (compEnvC scope cl C env)) (fun y s₄ => f v y ∧ Keeps s₃ s₄) E' s₃)
    (hQ : ∀ D s' ys (vs : List Value), s.heap.get? D = none → s'.heap.PlainList D ys → vs.length = n → (∀ j v, vs[j]? = some v → P j v) → Paired f vs ys.toList → Keeps s s' → Q (.ref D) s')
    (hs : ∀ x, foldedSetIterable iter env x = pure x := by intro _; rfl) :
    wpAny (model PG w) A (eval (.ListComp elt [⟨.Name x px, iter, [], 0⟩] scope pos) env) Q E s := by
  refine wpAny_ListComp_free (fun _ => true) f hclos hcell hkind hnames hx (wpAny_mono hiter (fun xv s₁ h₁ => wpAny_mono h₁ (fun it s₂ h₂ => ?_) fun _ _ e => e) fun _ _ e => e) hs
  obtain ⟨k, I, fp, wr, St, rfl, W, hst, hfp, hwr⟩ := h₂
  have k1 := keeps_ext k
  have out : ∀ {h' : Heap}, (∀ c o, c ∉ wr → s₂.heap.get? c = some o → h'.get? c = some o) → Ext s.heap h' :=
    fun k c o e => k c o (fun hm => by rw [hwr c hm] at e; cases e) (k1 c o e)
  refine ⟨I, fp, wr, n, P, St, rfl, W, hnz, hst, hfp, ⟨fun C i v s₃ m₃ E' hC hv hN hm hk htk => ?_, fun C i v s₃ m₃ E' hC hv hp hN hm hk htk => ?_⟩, ?_⟩
  · exact wpAny_pure ⟨rfl, krefl _⟩
  · exact helt C i v s₃ m₃ E' hv hN hm (out hk)
  · intro D h' tk ys vs hD hl hpl hlen hP hF hk
    refine hQ D _ ys vs ?_ hpl hlen hP ?_ ?_
    · cases q : s.heap.get? D with
      | none => rfl
      | some o => exact absurd hD (by rw [k1 D o q]; nofun)
    · rwa [List.filter_eq_self.mpr fun _ _ => rfl] at hF
    · obtain ⟨h₂, tk₂, rfl, _⟩ := k
      exact ⟨h', tk, rfl, out hk⟩

theorem bw_append (a b : List Bool) : bw a ++ bw b = bw (a ++ b) := by
  show Str.mk _ = Str.mk _
  congr 1
  simp [bw]
theorem join_singles (bs : List Bool) : Txt.join (Str.ofString "") (bs.map fun b => (⟨#[bc b]⟩ : Str)) = bw bs := by
  have e0 : Str.ofString "" = bw [] := by decide +kernel
  rw [e0]
  rw [show Txt.join = Str.join from funext fun a => funext fun b => by first | rfl | exact Txt.join_eq a b | exact StrLaws.glued_eq_join a b]
  induction bs with
  | nil => rfl
  | cons b r ih =>
    cases r with
    | nil => rfl
    | cons c r =>
      show bw [b] ++ bw [] ++ Str.join (bw []) ((c :: r).map fun b => (⟨#[bc b]⟩ : Str)) = _
      rw [ih, bw_append, bw_append]; rfl
theorem strs_paired {α : Type} {g : α → Str} : ∀ {L : List α} {ys : List Value}, Paired (fun i y => ∃ t, y = .str (g i) t) L ys → StrsAre ys (L.map g)
  | _, _, .nil => .nil
  | _, _, .cons h r => by obtain ⟨t, rfl⟩ := h; exact .cons _ _ (strs_paired r)
theorem join_bits {D : Addr} {ys : Array Value} {bs : List Bool} {sep : Str} {Q : Value → Shared → Prop} (hsep : sep = Str.ofString "") (hb : bs.length ≤ 1000) (hl : s.heap.PlainList D ys) (hi : StrsAre ys.toList (bs.map fun b => (⟨#[bc b]⟩ : Str)))
    (h : ∀ t' s', Keeps s s' → Q (.str (bw bs) t') s') : wpAny (model PG w) A (call (.builtin "str.join") [.str sep t, .ref D]) Q E s := by
  subst hsep
  refine join_listW hl.isList hi (by decide +kernel) ?_ fun t' k => ?_
  · have : ((bs.map fun b => (⟨#[bc b]⟩ : Str)).map (·.length)).sum = bs.length := by
      clear hi hb h
      induction bs with
      | nil => rfl
      | cons b r ih => simp only [List.map_cons, List.sum_cons, ih, List.length_cons]; show 1 + r.length = r.length + 1; omega
    rw [this, List.length_map]; omega
  · rw [join_singles]; exact h _ _ ⟨_, _, rfl, fun _ _ e => e⟩
theorem pair_bw : Str.ofString "()" = bw [true, false] := by decide +kernel
theorem one_bw (b : Bool) : (⟨#[bc b]⟩ : Str) = bw [b] := rfl
theorem item_bw_val {l : List Bool} {i : Nat} {b : Bool} (hi : l[i]? = some b) : Txt.item (bw l) (i : Int) = ⟨#[bc b]⟩ := by
  have hlt : i < l.length := (List.getElem?_eq_some_iff.mp hi).1
  have e : (bw l).cps[i]? = some (bc b) := by simp [bw, hi]
  unfold Txt.item Txt.charAt
  rw [show seqIndex? (i : Int) (bw l).length = some i from by rw [bw_length]; unfold seqIndex?; simp; omega]
  show (⟨#[((bw l).cps[i]?).getD 0]⟩ : Str) = _
  rw [e]; rfl
theorem item_bw {value slice : Expr} {i : Int} {u : Tok} {b : Bool} {Q : Value → Shared → Prop} (h0 : 0 ≤ i) (hi : l[i.toNat]? = some b) (hl : l.length ≤ 2 ^ 20) (h : ∀ tk s', Keeps s s' → Q (.str ⟨#[bc b]⟩ tk) s')
    (hs : subscripted slice false (.str (bw l) t) (.int i u) = operate [.str (bw l) t, .int i u] (getItem (.str (bw l) t) (.int i u)) := by with_unfolding_all rfl)
    (ht : ∀ r, letTemporaryGo value (.str (bw l) t) r = pure () := by intro _; with_unfolding_all rfl) :
    wpAny (model PG w) A (subscriptTail value slice (.str (bw l) t) (.int i u)) Q E s := by
  have hlt : i.toNat < l.length := by
    rw [List.getElem?_eq_some_iff] at hi; exact hi.1
  refine item_str (fitsSsize_of (N := 9223372036854775808) (by omega) (by omega) (Int.le_refl _)) (by rw [bw_length]; omega) (by rw [bw_length]; omega) (fun _ => ?_) hs ht
  rw [show i = ((i.toNat : Nat) : Int) from by omega, item_bw_val hi]
  exact h _ _ ⟨_, _, rfl, fun _ _ e => e⟩
theorem rev_bw_val (u : Tok) : Txt.sliceBy (bw l) none none (-1, u) = bw l.reverse := by
  have e := step_rev_list (bw l) u
  have : (Txt.sliceBy (bw l) none none (-1, u)).cps = (bw l.reverse).cps := by
    rw [← Array.toList_inj, e]
    apply List.ext_getElem
    · simp [bw_length]; simp [bw]
    · intro i h1 h2
      have hi : i < l.length := by simpa [bw] using h2
      have hi' : l.length - 1 - i < l.length := by omega
      have e2 : (bw l).length = l.length := bw_length l
      have e3 : (bw l).cps = (l.map bc).toArray := rfl
      rw [List.getElem_map, List.getElem_range]
      show (bw l).cps.getD ((bw l).length - 1 - i) 0 = _
      rw [e2, e3]
      simp [bw, hi', Array.getD]
  cases h : Txt.sliceBy (bw l) none none (-1, u) with
  | mk a => rw [h] at this; cases h2 : bw l.reverse with | mk b => rw [h2] at this; exact congrArg Str.mk this
theorem rev_bw {value slice : Expr} {uk : Tok} {Q : Value → Shared → Prop} (hl : l.length ≤ 2 ^ 20) (h : ∀ tk s', Keeps s s' → Q (.str (bw l.reverse) tk) s')
    (hs : subscripted slice false (.str (bw l) t) (.ref s.heap.objs.size) = operate [.ref s.heap.objs.size, .str (bw l) t] (getItem (.str (bw l) t) (.ref s.heap.objs.size)) := by with_unfolding_all rfl)
    (ht : ∀ r, letTemporaryGo value (.str (bw l) t) r = pure () := by intro _; with_unfolding_all rfl) :
    wpAny (model PG w) A (subscriptTail value slice (.str (bw l) t) (.ref s.heap.objs.size)) Q E { s with heap := s.heap.push { cls := .type "slice", data := .fields #[.none, .none, .int (-1) uk] } } := by
  have hz : sizeLine = 2 ^ 24 := rfl
  refine tail_of_ItemOn ⟨"str", _, F.slot_str_getitem.lookup, typeIs_str _ _ _, wpAny_getItem_str_slice (l := none) (u := none) (st := some (-1, uk)) ⟨_, Heap.get?_push_size _ rfl, rfl, rfl⟩ rfl
    (post_val_or_str ⟨?_, fun t' c => ?_⟩)⟩ hs ht
  · show (Txt.sliceBy (bw l) none none (-1, uk)).length ≤ sizeLine
    rw [rev_bw_val, bw_length, List.length_reverse]; omega
  · show Q (.str (Txt.sliceBy (bw l) none none (-1, uk)) t') _
    rw [rev_bw_val]
    exact h _ _ ⟨_, _, rfl, fun b o e => Heap.get?_push_of_some _ e⟩
theorem add_bw {a b : List Bool} {u : Tok} {Q : Value → Shared → Prop} (hl : a.length + b.length ≤ 2 ^ 20) (h : ∀ t' s', Keeps s s' → Q (.str (bw (a ++ b)) t') s') :
    wpAny (model PG w) A (binaryOp .Add (.str (bw a) t) (.str (bw b) u)) Q E s := by
  have hz : sizeLine = 2 ^ 24 := rfl
  refine PyProof.Rows.add_str (fun t' tk => ?_) (by rw [bw_length, bw_length]; omega)
  rw [bw_append]
  exact h _ _ ⟨_, _, rfl, fun _ _ e => e⟩
end
end Mine

namespace Mine
section
variable {w : World} {A : Around} {E : Value → Shared → Prop} {s : Shared}
theorem range_filter_succ (pz : Nat → Bool) (j : Nat) : (List.range (j + 1)).filter pz = (List.range j).filter pz ++ (if pz j = true then [j] else []) := by
  rw [List.range_succ, List.filter_append]
  congr 1
  cases h : pz j <;> simp [h]

theorem cellLoop {R : Result → Shared → Prop} {elt iter : Expr} {x : Str} {px pos : Pos} {ifs : List Expr} {scope : Scope} {I D C c : Addr} {n : Nat} {P : Nat → Value → Prop} {St : Nat → Heap → Prop} {cenv : Env} {m : Str → Option Value} {o₀ : Option Value}
    (W : Walks PG w A I [I] [I] n P St) (pz : Nat → Bool) (G : Nat → Value → Prop) (hP : ∀ i v, P i v → ∃ t, v = .int (i : Nat) t)
    (hx : cenv.kindOf x = some .cell) (hcl : cenv.cells.lookup x = some c) (hk : cenv.scope.kind = .function) (hn : n ≤ sizeLine)
    (hDc : D ≠ c) (hDI : D ≠ I) (hcI : c ≠ I) (hCD : C ≠ D) (hCI : C ≠ I) (hCc : C ≠ c)
    (hst : St 0 s.heap) (hacc : s.heap.PlainList D #[]) (hns : s.heap.Ns C m) (hcell : s.heap.IsCell c o₀)
    (tests : ∀ i tk s₂ E', i < n → s₂.heap.IsCell c (some (.int (i : Nat) tk)) → (∀ b o, b ≠ I → b ≠ D → b ≠ c → s.heap.get? b = some o → s₂.heap.get? b = some o) →
      wpAny (model PG w) A (forIn ifs true fun c r => if r = true then do let ok ← isTrue c cenv (eval c cenv); pure (ForInStep.yield ok) else pure (ForInStep.yield r)) (fun ok s₃ => ok = pz i ∧ Keeps s₂ s₃) E' s₂)
    (helt : ∀ i tk s₂ E', i < n → pz i = true → s₂.heap.IsCell c (some (.int (i : Nat) tk)) → (∀ b o, b ≠ I → b ≠ D → b ≠ c → s.heap.get? b = some o → s₂.heap.get? b = some o) →
      wpAny (model PG w) A (eval elt cenv) (fun y s₃ => G i y ∧ Keeps s₂ s₃) E' s₂)
    (hR : ∀ h' tk ys, h'.Ns C m → h'.PlainList D ys → Paired G ((List.range n).filter pz) ys.toList → (∀ b o, b ≠ I → b ≠ D → b ≠ c → s.heap.get? b = some o → h'.get? b = some o) →
      R (.ok .next) { s with heap := h', toks := tk }) :
    codeAny (model PG w) A (.compLoop (.ListComp elt [⟨.Name x px, iter, ifs, 0⟩] scope pos) 0 (.ref I) (.ref D) cenv) R s := by
  refine codeAny_compLoop_tests
    (fun k s' => ∃ h' tk j ys old, s' = { s with heap := h', toks := tk } ∧ St j h' ∧ h'.PlainList D ys ∧ h'.IsCell c old ∧ Paired G ((List.range j).filter pz) ys.toList ∧ j ≤ n ∧ k = n + 1 - j ∧
      (∀ b o, b ≠ I → b ≠ D → b ≠ c → s.heap.get? b = some o → h'.get? b = some o)) ?_ (n + 1)
    ⟨s.heap, s.toks, 0, #[], o₀, rfl, hst, hacc, hcell, Paired.nil, Nat.zero_le _, rfl, fun _ _ _ _ _ e => e⟩
  rintro k s' ⟨H, tk, j, ys, old, rfl, hst', hacc', hcell', hF, hj, rfl, hkp⟩
  have wI : ∀ {b : Addr}, b ≠ I → b ∉ [I] := fun h hm => h (List.mem_singleton.mp hm)
  have cellAt : ∀ {h h' : Heap} {v : Option Value}, h.IsCell c v → (∀ o, h.get? c = some o → h'.get? c = some o) → h'.IsCell c v := fun ⟨o, ho, hd⟩ k => ⟨o, k o ho, hd⟩
  by_cases hlt : j < n
  · refine W.item j _ _ _ hlt hst' fun v h₁ tk₁ hPv hst₁ hk₁ => ?_
    obtain ⟨tv, rfl⟩ := hP j v hPv
    refine wpAny_assign_Name (wpAny_storeName_cell hk hx hcl (cellAt hcell' fun o e => hk₁ _ o (wI hcI) e) fun h₂ hc₂ hs₂ => ?_)
    have up₂ : ∀ b o, b ≠ I → b ≠ c → H.get? b = some o → h₂.get? b = some o := fun b o hbI hbc e => hs₂.extBut b o hbc (hk₁ b o (wI hbI) e)
    have hst₂ : St (j + 1) h₂ := W.frame _ _ _ hst₁ fun b hb o e => hs₂.extBut b o (fun h => hcI (by rw [← h]; exact List.mem_singleton.mp hb)) e
    refine wpAny_mono (tests j tv _ _ hlt hc₂ fun b o h1 h2 h3 e => up₂ b o h1 h3 (hkp b o h1 h2 h3 e)) (fun ok s₃ h₃ => ?_) fun _ _ e => e
    obtain ⟨rfl, h₃, tk₃, rfl, hk₃⟩ := h₃
    have hst₃ : St (j + 1) h₃ := W.frame _ _ _ hst₂ fun b _ o e => hk₃ b o e
    have hacc₃ : h₃.PlainList D ys := hacc'.at fun o e => hk₃ _ o (up₂ D o hDI hDc e)
    have hc₃ := hc₂.keeps hk₃
    have hkp₃ : ∀ b o, b ≠ I → b ≠ D → b ≠ c → s.heap.get? b = some o → h₃.get? b = some o := fun b o h1 h2 h3 e => hk₃ b o (up₂ b o h1 h3 (hkp b o h1 h2 h3 e))
    cases hpv : pz j with
    | false =>
      simp only [Bool.false_eq_true, if_false]
      refine ⟨n + 1 - (j + 1), by omega, h₃, tk₃, j + 1, ys, _, rfl, hst₃, hacc₃, hc₃, ?_, hlt, rfl, hkp₃⟩
      rw [range_filter_succ, hpv]; simpa using hF
    | true =>
      simp only [if_true]
      refine wpAny_mono (helt j tv _ _ hlt hpv hc₃ hkp₃) (fun y s₄ h₄ => ?_) fun _ _ e => e
      obtain ⟨hGy, h₄, tk₄, rfl, hk₄⟩ := h₄
      have hys : ys.size ≤ sizeLine := by
        have e1 := hF.length
        have e2 : ((List.range j).filter pz).length ≤ (List.range j).length := List.length_filter_le _ _
        rw [List.length_range] at e2
        have e4 : ys.toList.length = ys.size := by simp
        omega
      refine wpAny_list_append_plain (hsz := hys) (hacc₃.at fun o e => hk₄ _ o e) fun h₅ hl₅ hs₅ => ?_
      refine ⟨n + 1 - (j + 1), by omega, h₅, tk₄, j + 1, ys.push y, _, rfl, ?_, hl₅, cellAt (hc₃.keeps hk₄) fun o e => hs₅.extBut c o (Ne.symm hDc) e, ?_, hlt, rfl, fun b o h1 h2 h3 e => hs₅.extBut b o h2 (hk₄ b o (hkp₃ b o h1 h2 h3 e))⟩
      · exact W.frame _ _ h₅ hst₃ fun b hb o e => hs₅.extBut b o (fun h => hDI (by rw [← h]; exact List.mem_singleton.mp hb)) (hk₄ b o e)
      · rw [range_filter_succ, hpv, if_pos rfl, Array.toList_push]; exact Paired.snoc hF hGy
  · have hin : j = n := by omega
    subst hin
    refine W.done _ _ _ hst' fun h₁ tk₁ hk₁ => ?_
    refine hR h₁ tk₁ ys ?_ (hacc'.at fun o e => hk₁ _ o (wI hDI) e) hF fun b o h1 h2 h3 e => hk₁ b o (wI h1) (hkp b o h1 h2 h3 e)
    exact hns.at' fun o e => hk₁ _ o (wI hCI) (hkp C o hCI hCD hCc e)
end
section
variable {w : World} {A : Around} {E : Value → Shared → Prop} {s : Shared} {env : Env}
/-- a comprehension over range(n) whose target is a cell -/
theorem lcC {x : Str} {px pos : Pos} {iter elt : Expr} {ifs : List Expr} {scope : Scope} {cl : List (Str × Addr)} {Q : Value → Shared → Prop} (pz : Nat → Bool) (G : Nat → Value → Prop) (n : Nat)
    (hclos : closureFor scope env = pure cl) (hcf : ∀ k, cellsFrom k scope.names cl = (x, k) :: cl) (hpc : ∀ h, pushCells h scope.names = h.push { cls := .type "cell", data := .cell none })
    (hkind : scope.kind = .function) (hnames : ∀ y ∈ scope.names, y.2 = .local → scope.names.lookup y.1 = some .local)
    (hx : ∀ C cl', (compEnvC scope cl' C env).kindOf x = some .cell)
    (hh : A.handled = none) (hn : n ≤ 2 ^ 20)
    (hiter : ∀ Q' : Value → Shared → Prop, (∀ s₁ u, Keeps s s₁ → wpAny (model PG w) A (call (.type "range") [.int n u]) Q' E s₁) → wpAny (model PG w) A (eval iter env) Q' E s)
    (tests : ∀ C c i tk s₃ E', i < n → s₃.heap.IsCell c (some (.int (i : Nat) tk)) → Ext s.heap s₃.heap →
      wpAny (model PG w) A (forIn ifs true fun e r => if r = true then do let ok ← isTrue e (compEnvC scope ((x, c) :: cl) C env) (eval e (compEnvC scope ((x, c) :: cl) C env)); pure (ForInStep.yield ok) else pure (ForInStep.yield r))
      (fun ok s₄ => ok = pz i ∧ Keeps s₃ s₄) E' s₃)
    (helt : ∀ C c i tk s₃ E', i < n → pz i = true → s₃.heap.IsCell c (some (.int (i : Nat) tk)) → Ext s.heap s₃.heap →
      wpAny (model PG w) A (eval elt (compEnvC scope ((x, c) :: cl) C env)) (fun y s₄ => G i y ∧ Keeps s₃ s₄) E' s₃)
    (hQ : ∀ D s' ys, s.heap.get? D = none → s'.heap.PlainList D ys → Paired G ((List.range n).filter pz) ys.toList → Keeps s s' → Q (.ref D) s')
    (hs : ∀ x, foldedSetIterable iter env x = pure x := by intro _; rfl) :
    wpAny (model PG w) A (eval (.ListComp elt [⟨.Name x px, iter, ifs, 0⟩] scope pos) env) Q E s := by
  have hz : sizeLine = 2 ^ 24 := rfl
  rw [eval_ListComp]
  refine wpAny_comprehension_free (use := none) rfl hs hclos hkind hnames (hiter _ fun s₁ u k => ?_)
  have k1 := keeps_ext k
  refine call_range_1 ?_
  refine wpAny_pyIter_range (IsRange.new ..) (small_one (by decide) (by decide) (by omega) (by omega)) ?_
  dsimp only
  have hsz : Builtin.Range.rangeSize 0 (n : Int) 1 = (n : Int) := by rw [rangeSize_one]; split <;> omega
  rw [hsz]
  have e0 : ∃ r : Obj, r = { cls := .type "range_iterator", data := .fields #[rawInt 0, rawInt n, rawInt 1] } := ⟨_, rfl⟩
  obtain ⟨r, hr⟩ := e0
  rw [← hr]
  generalize hH : s₁.heap.push _ = H₁
  have kH : Ext s.heap H₁ := fun b o e => by rw [← hH]; exact Heap.get?_push_of_some _ (k1 b o e)
  clear hH
  have W := (Walks.range (prog := PG) (w := w) (A := A) hh H₁.objs.size 0 1 n).bound
  refine wpAny_newObj_type ?_ (by size_fits)
  simp only [newFunctionEnv, Option.isSome_some, if_true]
  refine wpAny_bind (wpAny_alloc ?_)
  refine wpAny_bind (wpAny_layCells _ (fun name kind cells => by cases hkc : kind == NameKind.cell <;> simp) _ _ _ _ ?_)
  rw [hcf, hpc]
  simp only [List.forIn_nil]
  refine wpAny_bind (wpAny_pure (wpAny_pure ?_))
  dsimp only
  simp only [Heap.size_push]
  have q1 : Ext H₁ (H₁.push r) := fun b o e => Heap.get?_push_of_some _ e
  have q2 : Ext (H₁.push r) ((H₁.push r).push { cls := .type "list", data := .seq #[] }) := fun b o e => Heap.get?_push_of_some _ e
  have q3 : Ext ((H₁.push r).push { cls := .type "list", data := .seq #[] }) (((H₁.push r).push { cls := .type "list", data := .seq #[] }).push { cls := .type "dict", data := .dict #[] }) := fun b o e => Heap.get?_push_of_some _ e
  have q4 : Ext (((H₁.push r).push { cls := .type "list", data := .seq #[] }).push { cls := .type "dict", data := .dict #[] }) ((((H₁.push r).push { cls := .type "list", data := .seq #[] }).push { cls := .type "dict", data := .dict #[] }).push { cls := .type "cell", data := .cell none }) := fun b o e => Heap.get?_push_of_some _ e
  have hI := q4 _ _ (q3 _ _ (q2 _ _ (Heap.get?_push_size H₁ (o := r) (by rw [hr]; rfl))))
  have hD := q4 _ _ (q3 _ _ (Heap.get?_push_size (H₁.push r) (o := { cls := .type "list", data := .seq #[] }) rfl))
  have hC := (Heap.Ns.new ((H₁.push r).push { cls := .type "list", data := .seq #[] }) (.type "dict")).keeps q4
  have hc := Heap.get?_push_size (((H₁.push r).push { cls := .type "list", data := .seq #[] }).push { cls := .type "dict", data := .dict #[] }) (o := { cls := .type "cell", data := .cell none }) rfl
  have k5 : Ext H₁ ((((H₁.push r).push { cls := .type "list", data := .seq #[] }).push { cls := .type "dict", data := .dict #[] }).push { cls := .type "cell", data := .cell none }) := fun b o e => q4 _ _ (q3 _ _ (q2 _ _ (q1 _ _ e)))
  simp only [Heap.size_push] at hI hD hC hc
  generalize ((((H₁.push r).push { cls := .type "list", data := .seq #[] }).push { cls := .type "dict", data := .dict #[] }).push { cls := .type "cell", data := .cell none }) = H₅ at hI hD hC hc k5 ⊢
  clear q1 q2 q3 q4
  have hst : IsRangeIter H₅ H₁.objs.size (0 + ((0 : Nat) : Int) * 1) ((n : Int) - ((0 : Nat) : Int)) 1 := by
    rw [hr] at hI
    simpa using hI
  have low : ∀ {b o}, H₁.get? b = some o → b ≠ H₁.objs.size ∧ b ≠ H₁.objs.size + 1 ∧ b ≠ H₁.objs.size + 1 + 1 + 1 := fun e =>
    ⟨Nat.ne_of_lt (Heap.lt_size e), Nat.ne_of_lt (Nat.lt_succ_of_lt (Heap.lt_size e)), Nat.ne_of_lt (Nat.lt_succ_of_lt (Nat.lt_succ_of_lt (Nat.lt_succ_of_lt (Heap.lt_size e))))⟩
  have low2 : ∀ {b o}, H₁.get? b = some o → b ≠ H₁.objs.size + 1 + 1 := fun e => Nat.ne_of_lt (Nat.lt_succ_of_lt (Nat.lt_succ_of_lt (Heap.lt_size e)))
  have ne : ∀ a k : Nat, a ≠ a + k + 1 := fun a k => by omega
  have loop := cellLoop (s := { s₁ with heap := H₅, toks := s₁.toks + 1 + 1 }) (R := compPost (model PG w) A E none Q (.ref (H₁.objs.size + 1)) (H₁.objs.size + 1 + 1)) (elt := elt) (iter := iter) (ifs := ifs) (x := x) (px := px) (pos := pos) (scope := scope) W pz G
    (cenv := compEnvC scope ((x, H₁.objs.size + 1 + 1 + 1) :: cl) (H₁.objs.size + 1 + 1) env) (c := H₁.objs.size + 1 + 1 + 1) (D := H₁.objs.size + 1) (C := H₁.objs.size + 1 + 1)
    (fun i v hv => by obtain ⟨_, t, rfl⟩ := hv; exact ⟨t, by simp⟩) (hx _ _) (by show List.lookup x ((x, _) :: cl) = _; simp) hkind (by omega)
    (ne _ 1) (Ne.symm (ne _ 0)) (Ne.symm (ne _ 2)) (Ne.symm (ne _ 0)) (Ne.symm (ne _ 1)) (ne _ 0) hst ⟨_, hD⟩ hC ⟨_, hc, rfl⟩
    (fun i tk s₂ E' hi hcl k2 => tests _ _ i tk s₂ E' hi hcl fun b o e => k2 b o (low (kH b o e)).1 (low (kH b o e)).2.1 (low (kH b o e)).2.2 (k5 b o (kH b o e)))
    (fun i tk s₂ E' hi hp hcl k2 => helt _ _ i tk s₂ E' hi hp hcl fun b o e => k2 b o (low (kH b o e)).1 (low (kH b o e)).2.1 (low (kH b o e)).2.2 (k5 b o (kH b o e)))
    (fun h' tk ys hns hpl hPd k2 => by
      refine ⟨_, hns, fun h'' hs'' => hQ _ _ ys ?_ (hpl.extBut hs''.extBut (ne _ 0)) hPd ?_⟩
      · cases q : s.heap.get? (H₁.objs.size + 1) with
        | none => rfl
        | some o => exact absurd rfl (low (kH _ o q)).2.1
      · obtain ⟨ha, ta, rfl, _⟩ := k
        refine ⟨h'', tk, rfl, fun b o e => ?_⟩
        have e1 := kH b o e
        exact hs''.extBut b o (low2 e1) (k2 b o (low e1).1 (low e1).2.1 (low e1).2.2 (k5 b o e1)))
  exact codeAny_compStart_list loop (W.self 0 _ _ _ hst loop)
end
end Mine

namespace Mine
section
variable {w : World} {A : Around} {E : Value → Shared → Prop} {s : Shared}
theorem list_upto {value slice : Expr} {l : Addr} {vs : List Value} {ns : List Int} {y : Int} {uy : Tok} {Q : Value → Shared → Prop} (hl : s.heap.IsList l vs.toArray) (hi : IntsAre vs ns) (hy : 0 ≤ y) (hsz : ns.length ≤ 2 ^ 20)
    (h : ∀ D ws s', Keeps s s' → s'.heap.IsList D (List.toArray ws) → IntsAre ws (ns.take y.toNat) → Q (.ref D) s')
    (hs : subscripted slice false (.ref l) (.ref s.heap.objs.size) = operate [.ref s.heap.objs.size, .ref l] (getItem (.ref l) (.ref s.heap.objs.size)) := by with_unfolding_all rfl)
    (ht : ∀ r, letTemporaryGo value (.ref l) r = pure () := by intro _; with_unfolding_all rfl) :
    wpAny (model PG w) A (subscriptTail value slice (.ref l) (.ref s.heap.objs.size)) Q E { s with heap := s.heap.push { cls := .type "slice", data := .fields #[.none, .int y uy, .none] } } := by
  have hz : sizeLine = 2 ^ 24 := rfl
  have hlen := hi.length
  refine subscriptTail_ops (Heap.IsList.typeIs (s := { s with heap := s.heap.push { cls := .type "slice", data := .fields #[.none, .int y uy, .none] } }) (hl.push _)) list_getitem_lookup
    (wpAny_getItem_list_slice (hl.push _) (Heap.IsSliceOf.new ..) .none (.int _ _) .none (by simp) ?_ (by simp; omega)) hs ht
  refine h _ (slicePick vs.toArray none (some y) none).toList _ ⟨_, _, rfl, fun b o e => Heap.get?_push_of_some _ (Heap.get?_push_of_some _ e)⟩ ⟨_, Heap.get?_push_size _ rfl, rfl, 0, rfl⟩ (slice_ints_uptoW hi hy)

theorem sum_l {l : Addr} {vs : List Value} {ns : List Int} {Q : Value → Shared → Prop} (hh : A.handled = none) (hl : s.heap.IsList l vs.toArray) (hi : IntsAre vs ns)
    (h : ∀ k tk s', Keeps s s' → Q (.int k tk) s') : wpAny (model PG w) A (call (.builtin "sum") [.ref l]) Q E s := by
  obtain ⟨xs, hx⟩ := hi.allInts.items
  rw [hx] at hl
  exact sum_intListG hh hl fun h' tk t' k => h _ _ _ ⟨h', tk, rfl, k⟩
end
section
variable {w : World} {A : Around} {E : Value → Shared → Prop} {s : Shared}
def wd0 (ns : List Int) : List Bool := (ns.take 18).map fun n => n % 2 == 0
theorem fmod2 (n : Int) : (n.fmod 2 = 0 ∨ n.fmod 2 = 1) ∧ ([true, false][(n.fmod 2).toNat]? = some (n % 2 == 0)) ∧ 0 ≤ n.fmod 2 := by
  have h1 := Int.fmod_nonneg_of_pos n (b := 2) (by decide)
  have h2 := Int.fmod_lt_of_pos n (b := 2) (by decide)
  have h3 : n.fmod 2 = n % 2 := by rw [Int.fmod_eq_emod]; simp
  have h4 : n.fmod 2 = 0 ∨ n.fmod 2 = 1 := by omega
  refine ⟨h4, ?_, h1⟩
  rcases h4 with h | h <;> rw [h] at h3 ⊢ <;> rw [← h3] <;> rfl

theorem ints_at : ∀ {vs : List Value} {ns : List Int}, IntsAre vs ns → ∀ {i : Nat} {v : Value}, vs[i]? = some v → ∃ t, v = Value.int (ns.getD i 0) t
  | _, _, .nil, i, v, h => by simp at h
  | _, _, .cons n t r, 0, v, h => by cases h; exact ⟨t, rfl⟩
  | _, _, .cons n t r, i + 1, v, h => by
    obtain ⟨t, e⟩ := ints_at r (i := i) (v := v) (by simpa using h)
    exact ⟨t, by simpa using e⟩
theorem paired_bits : ∀ {ws ys : List Value} {L : List Int}, (∀ (j : Nat) (v : Value), ws[j]? = some v → ∃ t, v = Value.int (L.getD j 0) t) → ws.length = L.length →
    Paired (fun v y => ∃ n t u, v = Value.int n t ∧ y = Value.str ⟨#[bc (n % 2 == 0)]⟩ u) ws ys → StrsAre ys ((L.map fun n => n % 2 == 0).map fun b => (⟨#[bc b]⟩ : Str))
  | _, _, [], _, _, .nil => .nil
  | _, _, _ :: _, _, hl, .nil => by cases hl
  | _, _, [], _, hl, .cons _ _ => by cases hl
  | _, _, n :: L, hw, hl, .cons h r => by
    obtain ⟨n', t', u, rfl, rfl⟩ := h
    obtain ⟨t, e⟩ := hw 0 _ rfl
    have e' : n' = n := by simpa using (Value.int.inj e).1
    subst e'
    exact .cons _ _ (paired_bits (fun j v hj => by simpa using hw (j + 1) v (by simpa using hj)) (by simpa using hl) r)
theorem fresh_of_ext {h h' : Heap} (k : Ext h h') {b : Addr} (hb : h'.objs.size ≤ b) : h.get? b = none := by
  cases e : h.get? b with
  | none => rfl
  | some o => exact absurd (Heap.lt_size (k b o e)) (Nat.not_lt.mpr hb)


/-- where the walk of law stands: the frame, the cells, what is kept -/
structure LW (s : Shared) (cs : List (Str × Addr)) (m cm : Str → Option Value) (s' : Shared) : Prop where
  F : Fr s.heap s.heap.objs.size s'.heap m
  C : Cl s.heap.objs.size cs s'.heap cm
  W : Aft s s'
theorem Aft.trans {s s' s'' : Shared} (x : Aft s s') (y : Aft s' s'') : Aft s s'' := by
  obtain ⟨h, tk, g, rfl, k, b⟩ := x
  obtain ⟨h', tk', g', rfl, k', b'⟩ := y
  exact ⟨h', tk', g', rfl, fun a o e => k' a o (k a o e), fun z => b' (b z)⟩
theorem Aft.of {s s' : Shared} (k : Keeps s s') : Aft s s' := by
  obtain ⟨h, tk, rfl, k⟩ := k
  exact ⟨h, tk, s.gens, rfl, k, id⟩
theorem Aft.ext {s s' : Shared} (x : Aft s s') : Ext s.heap s'.heap := by obtain ⟨h, tk, g, rfl, k, b⟩ := x; exact k
theorem LW.aft {s s' s'' : Shared} {cs : List (Str × Addr)} {m cm : Str → Option Value} (X : LW s cs m cm s') (k : Aft s' s'') : LW s cs m cm s'' :=
  ⟨X.F.keeps k.ext, X.C.keeps k.ext, X.W.trans k⟩
theorem Aft.tk {s s' : Shared} (x : Aft s s') (t : Nat) : Aft s { s' with toks := t } := x.trans (.of ⟨_, _, rfl, fun _ _ e => e⟩)
theorem LW.tk {s s' : Shared} {cs : List (Str × Addr)} {m cm : Str → Option Value} (X : LW s cs m cm s') (t : Nat) : LW s cs m cm { s' with toks := t } := X.aft (.of ⟨_, _, rfl, fun _ _ e => e⟩)
theorem LW.keeps {s s' s'' : Shared} {cs : List (Str × Addr)} {m cm : Str → Option Value} (X : LW s cs m cm s') (k : Keeps s' s'') : LW s cs m cm s'' := X.aft (.of k)
section
variable {M : Model} {A : Around} {E : Value → Shared → Prop} {s s' : Shared} {name : Str} {scope : Scope} {a : Addr} {cd : Value} {m cm : Str → Option Value}
theorem LW.stL {x : Str} {v : Value} {Q : Unit → Shared → Prop} (X : LW s (cellsFrom (s.heap.objs.size + 1) scope.names []) m cm s')
    (h : ∀ s'' m', m' x = some v → (∀ y, y ≠ x → m' y = m y) → LW s (cellsFrom (s.heap.objs.size + 1) scope.names []) m' cm s'' → Q () s'')
    (hk : scope.kind = .function := by rfl) (hl : (envOfC name scope s.heap.objs.size a cd).kindOf x = some .local := by rfl) :
    wpAny M A (storeName (envOfC name scope s.heap.objs.size a cd) x v) Q E s' := by
  refine stLoc X.F X.C (fun h' F' C' => h _ _ (if_pos rfl) (fun y hy => if_neg hy) ⟨F', C', ?_⟩) hk hl
  obtain ⟨h₁, tk, g, rfl, k, b⟩ := X.W
  exact ⟨h', _, g, rfl, F'.keep, b⟩
theorem LW.stC {x : Str} {c : Addr} {v : Value} {Q : Unit → Shared → Prop} (X : LW s (cellsFrom (s.heap.objs.size + 1) scope.names []) m cm s') (hc : (cellsFrom (s.heap.objs.size + 1) scope.names []).lookup x = some c)
    (h : ∀ s'' cm', cm' x = some v → (∀ y, y ≠ x → cm' y = cm y) → LW s (cellsFrom (s.heap.objs.size + 1) scope.names []) m cm' s'' → Q () s'')
    (hk : scope.kind = .function := by rfl) (hl : (envOfC name scope s.heap.objs.size a cd).kindOf x = some .cell := by rfl) :
    wpAny M A (storeName (envOfC name scope s.heap.objs.size a cd) x v) Q E s' := by
  refine PyProof.Rows.stC X.F X.C hc (fun h' F' C' => h _ _ (if_pos rfl) (fun y hy => if_neg hy) ⟨F', C', ?_⟩) hk hl
  obtain ⟨h₁, tk, g, rfl, k, b⟩ := X.W
  exact ⟨h', _, g, rfl, F'.keep, b⟩
theorem LW.ldL {x : Str} {pos : Pos} {v : Value} {cs : List (Str × Addr)} {Q : Value → Shared → Prop} (X : LW s cs m cm s') (hv : m x = some v) (h : Q v s')
    (hk : scope.kind = .function := by rfl) (hl : (envOfC name scope s.heap.objs.size a cd).kindOf x = some .local := by rfl) (hd : (x == ("__debug__" : Str)) = false := by decide) :
    wpAny M A (eval (.Name x pos) (envOfC name scope s.heap.objs.size a cd)) Q E s' := ldLoc X.F hv h hk hl hd
theorem LW.ldC {x : Str} {pos : Pos} {c : Addr} {v : Value} {Q : Value → Shared → Prop} (X : LW s (cellsFrom (s.heap.objs.size + 1) scope.names []) m cm s') (hc : (cellsFrom (s.heap.objs.size + 1) scope.names []).lookup x = some c) (hv : cm x = some v) (h : Q v s')
    (hk : scope.kind = .function := by rfl) (hl : (envOfC name scope s.heap.objs.size a cd).kindOf x = some .cell := by rfl) (hd : (x == ("__debug__" : Str)) = false := by decide) :
    wpAny M A (eval (.Name x pos) (envOfC name scope s.heap.objs.size a cd)) Q E s' := PyProof.Rows.ldC X.C hc hv h hk hl hd
end

section
variable {w : World} {A : Around} {E : Value → Shared → Prop} {s : Shared} {env : Env} {a b : Int} {t u : Tok} {pos : Pos} {k : Nat} {Q : Value → Shared → Prop}
theorem ktok (s : Shared) (t : Nat) : Keeps s { s with toks := t } := ⟨_, _, rfl, fun _ _ e => e⟩
theorem mod_k (hb : b ≠ 0) (h : ∀ tk s', Keeps s s' → Q (.int (a.fmod b) tk) s') : wpAny (model PG w) A (binaryOp .Mod (.int a t) (.int b u)) Q E s := PyProof.Rows.mod_int hb (h _ _ (ktok _ _))
theorem add_k (h : ∀ tk s', Keeps s s' → Q (.int (a + b) tk) s') : wpAny (model PG w) A (binaryOp .Add (.int a t) (.int b u)) Q E s := add_int (h _ _ (ktok _ _))
theorem cint_k {n : Int} (h : ∀ tk s', Keeps s s' → Q (.int n tk) s') : wpAny (model PG w) A (eval (.Constant (.int n) k pos) env) Q E s := wpAny_Constant_int (h _ _ (ktok _ _))
theorem cstr_k {n : Str} (h : ∀ tk s', Keeps s s' → Q (.str n tk) s') : wpAny (model PG w) A (eval (.Constant (.str n) k pos) env) Q E s := Constant_str (h _ _ (ktok _ _))
theorem tup_k {v1 v2 : Value} (h : ∀ T s', Keeps s s' → s'.heap.IsTuple T #[v1, v2] → Q (.ref T) s') : wpAny (model PG w) A (newObj (.type "tuple") (.seq [v1, v2].toArray)) Q E s := by
  refine wpAny_newObj_type ?_ (by size_fits)
  exact h _ _ ⟨_, _, rfl, fun b o e => Heap.get?_push_of_some _ e⟩ ⟨_, Heap.get?_push_size _ rfl, rfl, _, rfl⟩
theorem unpack2 {T : Addr} {x1 x2 : Str} {p1 p2 : Pos} {kk : Nat} {v1 v2 : Value} {Q : Unit → Shared → Prop} (hh : A.handled = none) (ht : s.heap.IsTuple T #[v1, v2])
    (h : ∀ s', Keeps s s' → wpAny (model PG w) A (assign (.Name x1 p1) env v1) (fun _ s'' => wpAny (model PG w) A (assign (.Name x2 p2) env v2) Q E s'') E s') :
    wpAny (model PG w) A (assign (.Tuple [.Name x1 p1, .Name x2 p2] kk pos) env (.ref T)) Q E s := by
  refine wpAny_assign_Tuple hh ht rfl rfl fun h₁ k₁ => ?_
  show wpAny (model PG w) A (assignInOrder [assign (.Name x1 p1) env, assign (.Name x2 p2) env] [v1, v2]) _ _ _
  unfold assignInOrder
  refine wpAny_bind (wpAny_holding (wpAny_mono (h _ ⟨h₁, s.toks, rfl, fun b o e => k₁ b o (Nat.ne_of_lt (Heap.lt_size e)) e⟩) (fun _ s₂ h₂ => ?_) fun _ _ e => e))
  unfold assignInOrder
  refine wpAny_bind (wpAny_holding (wpAny_mono h₂ (fun _ s₃ h₃ => ?_) fun _ _ e => e))
  exact wpAny_pure h₃
end

end
end Mine

namespace Mine
/-- the body of the law, as it stands in the program -/
def lawBody : List Stmt := match PG.main.body.getLast? with | some (.FunctionDef _ _ b _ _ _ _ _ _ _) => b | _ => []
def lawScope : Scope := match PG.main.body.getLast? with | some (.FunctionDef _ _ _ _ _ _ sc _ _ _) => sc | _ => { kind := .function, names := [], isGenerator := false, isCoroutine := false }
abbrev LE (s : Shared) : Env := envOfC (Str.ofString "law") lawScope s.heap.objs.size 87 (.ref 86)
abbrev LC (s : Shared) : List (Str × Addr) := cellsFrom (s.heap.objs.size + 1) lawScope.names []
section
variable {w : World} {A : Around} {E : Value → Shared → Prop} {s : Shared}
set_option maxHeartbeats 4000000 in
theorem law_call1 {a : Addr} {vs : List Value} {ns : List Int} {Q : Value → Shared → Prop} (ok : Ok A 8) (G : Gd w s.heap) (hl : s.heap.IsList a vs.toArray) (hi : IntsAre vs ns) (hn : ns.length ≤ 63)
    (hrest : ∀ A' m cm s' mo t u, Ok A' 7 → m (Str.ofString "more") = some (.int mo t) → (1 ≤ mo ∧ mo ≤ 3) → cm (Str.ofString "word") = some (.str (bw (wd0 ns)) u) → LW s (LC s) m cm s' →
      wpAny (model PG w) A' (execs (lawBody.drop 1) (LE s)) (fun f s' => Q (match f with | .ret v => v | _ => .none) s') (fun _ _ => False) s') : wpAny (model PG w) A (call (.ref 87) [.ref a]) Q E s := by
  have hsz : sizeLine = 2 ^ 24 := rfl
  refine wpAny_call ?_
  refine call_cells_ret (binds := [(Str.ofString "script", .ref a)]) (by have := ok.dp; omega) (G.X 87 _ rfl) rfl G.lim (codeRec_of G.X rfl) rfl
    (kindsX rfl _) fun h₁ tk F0 C0 => ?_
  refine gen_A ok.deeper fun A' ok' => ?_
  obtain ⟨m, hm, F⟩ : ∃ m, m (Str.ofString "script") = some (Value.ref a) ∧ Fr s.heap s.heap.objs.size h₁ m := ⟨_, rfl, F0⟩
  obtain ⟨cm, C⟩ : ∃ cm, Cl _ _ h₁ cm := ⟨_, C0⟩
  have X : LW s _ m cm { s with heap := h₁, toks := tk } := ⟨F, C, ⟨_, _, s.gens, rfl, F.keep, id⟩⟩
  clear F C F0 C0
  generalize ({ s with heap := h₁, toks := tk } : Shared) = s₁ at X ⊢
  clear h₁ tk
  have Gx : ∀ {cs m cm s'}, LW s cs m cm s' → Gd w s'.heap := fun X => G.ext X.F.keep
  have hlx : ∀ {cs m cm s'}, LW s cs m cm s' → s'.heap.IsList a vs.toArray := fun X => hl.at fun o e => X.F.keep _ _ e
  have hlen := hi.length
  refine wpAny_execs_cons ?_
  refine Assign_Tuple ?_
  refine Tuple_ ?_
  refine spliced_more ?_
  refine MethodCall_ ?_
  refine cstr_k fun _ s₂ k2 => ?_
  replace X := X.keeps k2
  clear k2 s₁
  with_reducible refine gm_join ?_
  refine callWith_method1 (spliced_more ?_)
  refine lcX (ns.take 18).length (fun i v => ∃ t, v = .int ((ns.take 18).getD i 0) t) (fun v y => ∃ n t u, v = .int n t ∧ y = .str ⟨#[bc (n % 2 == 0)]⟩ u) rfl (by decide) rfl (by decide) (by decide) (by rw [List.length_take]; omega) ?_ ?_ ?_
  · refine Subscript_ ?_
    refine LW.ldL X hm ?_
    refine wpAny_Slice ?_
    refine evalPart_none_step ?_
    refine evalPart_some_step ?_
    refine cint_k fun _ s₃ k3 => ?_
    replace X := X.keeps k3
    refine evalPart_none_step ?_
    refine list_upto (hlx X) hi (by decide) (by omega) fun D ws s₂ k2 hD hw => ?_
    refine wpAny_pyIter_list hD ?_
    have hwl : ws.toArray.size = (ns.take 18).length := by rw [List.size_toArray]; exact hw.length
    have hDlt : D < s₂.heap.objs.size := by obtain ⟨_, e, _⟩ := hD; exact Heap.lt_size e
    have W := Walks.list (prog := PG) (w := w) (A := A') ok'.hh s₂.heap.objs.size D (Nat.ne_of_lt hDlt) ws.toArray
    rw [hwl] at W
    refine ⟨ktr k3 (ktr k2 ⟨_, _, rfl, fun b o e => Heap.get?_push_of_some _ e⟩), _, _, _, _, rfl, ⟨W.sub, W.frame, fun i s Q E hi st h => W.item i s Q E hi st fun v h' tk hv => h v h' tk (ints_at hw (by simpa using hv)), W.done, W.self⟩, ⟨⟨_, Heap.get?_push_size _ rfl, rfl, rfl⟩, hD.push _⟩, ?_, ?_⟩
    · intro b hb
      rw [Heap.size_push]
      rcases List.mem_cons.mp hb with rfl | hb
      · exact Nat.lt_succ_self _
      · rw [List.mem_singleton.mp hb]; exact Nat.lt_succ_of_lt hDlt
    · intro b hb
      rw [List.mem_singleton.mp hb]
      exact fresh_of_ext (keeps_ext (ktr k3 k2)) (Nat.le_refl _)
  · rintro Cn i v s₃ m₃ E' ⟨t, rfl⟩ hN hm₃ k3
    refine Subscript_ ?_
    refine Constant_str ?_
    refine wpAny_BinOp ?_
    refine wpAny_Name (wpAny_loadName_local rfl rfl hN hm₃ ?_) (by decide)
    refine wpAny_Constant_int ?_
    refine PyProof.Rows.mod_int (by decide) ?_
    generalize (ns.take 18).getD i 0 = n
    rw [pair_bw]
    refine item_bw (fmod2 n).2.2 (fmod2 n).2.1 (by decide) fun tk s₄ k4 => ?_
    exact ⟨⟨n, _, _, rfl, rfl⟩, ktr ⟨_, _, rfl, fun _ _ e => e⟩ k4⟩
  · intro D s₂ ys ws hD hpl hwl hw hp k2
    refine spliced_none ?_
    refine join_bits (bs := wd0 ns) rfl (by simp [wd0]; omega) hpl (paired_bits hw hwl hp) fun t₃ s₃ k3 => ?_
    replace X := X.keeps (ktr k2 k3)
    clear k2 k3 hpl hp hw hwl hD D ys ws s₂
    refine spliced_more ?_
    refine wpAny_BinOp ?_
    refine cint_k fun _ s₂ k2 => ?_
    replace X := X.keeps k2
    clear k2 s₃
    refine wpAny_BinOp ?_
    refine Call_ ?_
    with_reducible refine bn (Gx X) no_sum boot_sum (by decide) ?_
    refine PyProof.Rows.callWith_builtin1 ?_
    refine spliced_more ?_
    refine LW.ldL X hm ?_
    refine spliced_none ?_
    refine sum_l ok'.hh (hlx X) hi fun sm tks s₄ k4 => ?_
    refine cint_k fun _ s₅ k5 => ?_
    refine mod_k (by decide) fun _ s₆ k6 => ?_
    refine add_k fun tm s₇ k7 => ?_
    refine spliced_none ?_
    refine tup_k fun T s₈ k8 hT => ?_
    refine unpack2 ok'.hh hT fun s₉ k9 => ?_
    replace X := X.keeps (ktr k4 (ktr k5 (ktr k6 (ktr k7 (ktr k8 k9)))))
    clear k4 k5 k6 k7 k8 k9 hT T s₂ s₄ s₅ s₆ s₇ s₈
    refine wpAny_assign_Name ?_
    refine LW.stC X rfl fun s₂ cm₂ ew oc X => ?_
    refine wpAny_assign_Name ?_
    refine LW.stL X fun s₂ m₂ em om X => ?_
    have h1 := Int.fmod_nonneg_of_pos sm (b := 3) (by decide)
    have h2 := Int.fmod_lt_of_pos sm (b := 3) (by decide)
    exact hrest A' m₂ cm₂ s₂ _ _ _ ok' em ⟨by omega, by omega⟩ ew X
end
end Mine

namespace Mine
theorem dep_nil : dep [] = 0 := rfl
theorem dep_append (a b : List Bool) : dep (a ++ b) = dep a + dep b := by
  unfold dep; rw [List.count_append, List.count_append]; omega
theorem dep_true : dep [true] = 1 := rfl
theorem dep_false : dep [false] = -1 := rfl
theorem count_both (l : List Bool) : l.count true + l.count false = l.length := by
  induction l with
  | nil => rfl
  | cons b r ih => cases b <;> simp [List.count_cons] <;> omega
theorem dep_le (l : List Bool) : dep l ≤ l.length ∧ -(l.length : Int) ≤ dep l := by
  have := count_both l
  unfold dep; omega
section
variable {w : World} {A : Around} {E : Value → Shared → Prop} {s s' : Shared}
set_option maxHeartbeats 4000000 in
theorem law_loops {m cm : Str → Option Value} {mo : Int} {t u : Tok} {wd : List Bool} {Q : Flow → Shared → Prop} (ok : Ok A 7) (G : Gd w s.heap) (hmo : m (Str.ofString "more") = some (.int mo t)) (h3 : 1 ≤ mo ∧ mo ≤ 3)
    (hw : cm (Str.ofString "word") = some (.str (bw wd) u)) (hl : wd.length ≤ 18) (X : LW s (LC s) m cm s')
    (h : ∀ cm' s'' wd' u', cm' (Str.ofString "word") = some (.str (bw wd') u') → dep wd' = mo → wd'.length ≤ 100 → LW s (LC s) m cm' s'' → wpAny (model PG w) A (execs (lawBody.drop 3) (LE s)) Q E s'') :
    wpAny (model PG w) A (execs (lawBody.drop 1) (LE s)) Q E s' := by
  have hsz : sizeLine = 2 ^ 24 := rfl
  have Gx : ∀ {cs m cm s'}, LW s cs m cm s' → Gd w s'.heap := fun X => G.ext X.F.keep
  refine wpAny_execs_cons ?_
  refine wpAny_While ?_
  refine codeAny_whileLoop (fun n s₁ => ∃ cm wd u, cm (Str.ofString "word") = some (.str (bw wd) u) ∧ LW s (LC s) m cm s₁ ∧ n = (mo - dep wd).toNat ∧ wd.length + n ≤ 39) ?_ (mo - dep wd).toNat ⟨cm, wd, u, hw, X, rfl, ?_⟩
  · rintro n s₁ ⟨cm₁, wd₁, u₁, hw₁, X₁, hn, hlen⟩
    refine wpAny_isTrue_Compare1 ?_
    refine Call_ ?_
    with_reducible refine gn (Gx X₁) is_depth ?_
    refine callWith_K (K := KK w) (Gx X₁).X rfl ?_
    refine spliced_more ?_
    refine LW.ldC X₁ rfl hw₁ ?_
    refine spliced_none ⟨(Gx X₁).X, ?_⟩
    refine law_depth_call (ok.mono (by decide)) (Gx X₁) (by omega) fun tk s₂ k2 => ?_
    replace X₁ := X₁.keeps k2
    clear k2
    refine LW.ldL X₁ hmo ?_
    refine lt_int ?_
    refine wpAny_truthy_bool ?_
    by_cases hlt : dep wd₁ < mo
    · rw [decide_eq_true hlt, if_pos rfl]
      refine wpAny_execs_cons ?_
      refine wpAny_Assign_Name ?_
      refine wpAny_BinOp ?_
      refine LW.ldC X₁ rfl hw₁ ?_
      refine cstr_k fun tk s₃ k3 => ?_
      rw [show Str.ofString "(" = bw [true] from by decide +kernel]
      refine add_bw (by simp; omega) fun t' s₄ k4 => ?_
      replace X₁ := X₁.keeps (ktr k3 k4)
      refine LW.stC X₁ rfl fun s₅ cm₅ e₅ o₅ X₅ => ?_
      refine wpAny_execs_nil ?_
      have hd : dep (wd₁ ++ [true]) = dep wd₁ + 1 := by rw [dep_append, dep_true]
      exact ⟨(mo - dep (wd₁ ++ [true])).toNat, by omega, cm₅, wd₁ ++ [true], t', e₅, X₅, rfl, by rw [List.length_append, List.length_singleton]; omega⟩
    · rw [decide_eq_false hlt, if_neg Bool.false_ne_true]
      refine wpAny_execs_nil ?_
      have hlen₁ : wd₁.length ≤ 39 := by omega
      have hge : mo ≤ dep wd₁ := by omega
      clear hn hlen hlt X hw
      refine wpAny_execs_cons ?_
      refine wpAny_While ?_
      refine codeAny_whileLoop (fun n s₁ => ∃ cm wd u, cm (Str.ofString "word") = some (.str (bw wd) u) ∧ LW s (LC s) m cm s₁ ∧ n = (dep wd - mo).toNat ∧ wd.length + n ≤ 100 ∧ mo ≤ dep wd) ?_ (dep wd₁ - mo).toNat ⟨cm₁, wd₁, u₁, hw₁, X₁, rfl, ?_, hge⟩
      · rintro n s₁ ⟨cm₁, wd₁, u₁, hw₁, X₁, hn, hlen, hge⟩
        refine wpAny_isTrue_Compare1 ?_
        refine Call_ ?_
        with_reducible refine gn (Gx X₁) is_depth ?_
        refine callWith_K (K := KK w) (Gx X₁).X rfl ?_
        refine spliced_more ?_
        refine LW.ldC X₁ rfl hw₁ ?_
        refine spliced_none ⟨(Gx X₁).X, ?_⟩
        refine law_depth_call (ok.mono (by decide)) (Gx X₁) (by omega) fun tk s₂ k2 => ?_
        replace X₁ := X₁.keeps k2
        clear k2
        refine LW.ldL X₁ hmo ?_
        refine gt_int ?_
        refine wpAny_truthy_bool ?_
        by_cases hlt : mo < dep wd₁
        · rw [decide_eq_true hlt, if_pos rfl]
          refine wpAny_execs_cons ?_
          refine wpAny_Assign_Name ?_
          refine wpAny_BinOp ?_
          refine LW.ldC X₁ rfl hw₁ ?_
          refine cstr_k fun tk s₃ k3 => ?_
          rw [show Str.ofString ")" = bw [false] from by decide +kernel]
          refine add_bw (by simp; omega) fun t' s₄ k4 => ?_
          replace X₁ := X₁.keeps (ktr k3 k4)
          refine LW.stC X₁ rfl fun s₅ cm₅ e₅ o₅ X₅ => ?_
          refine wpAny_execs_nil ?_
          have hd : dep (wd₁ ++ [false]) = dep wd₁ - 1 := by rw [dep_append, dep_false]; omega
          exact ⟨(dep (wd₁ ++ [false]) - mo).toNat, by omega, cm₅, wd₁ ++ [false], t', e₅, X₅, rfl, by rw [List.length_append, List.length_singleton]; omega, by omega⟩
        · rw [decide_eq_false hlt, if_neg Bool.false_ne_true]
          refine wpAny_execs_nil ?_
          exact h cm₁ s₂ wd₁ u₁ hw₁ (by omega) (by omega) X₁
      · have := dep_le wd₁
        omega
  · have := dep_le wd
    omega
end
end Mine

namespace Mine
section
variable {w : World} {A : Around} {E : Value → Shared → Prop} {s : Shared} {env : Env}
/-- a comprehension over range(n), stored into a local -/
theorem lc1A {x y : Str} {px py pos spos : Pos} {iter elt : Expr} {ifs : List Expr} {scope : Scope} {cl : List (Str × Addr)} {m : Str → Option Value} {Q : Flow → Shared → Prop} (pz : Nat → Bool) (G : Nat → Value → Prop) (n : Nat)
    (hsw : swapsWith (.ListComp elt [⟨.Name x px, iter, ifs, 0⟩] scope pos) (some (.Name y py)) spos.line env = pure true)
    (hclos : closureFor scope env = pure cl) (hcell : ∀ y ∈ scope.names, y.2 ≠ .cell) (hkind : scope.kind = .function)
    (hnames : ∀ y ∈ scope.names, y.2 = .local → scope.names.lookup y.1 = some .local) (hx : scope.names.lookup x = some .local)
    (hy : env.kindOf y = some .local) (hp : (env.scope.kind == .class || (env.scope.kind == .module && env.locals != env.globals)) = false)
    (hh : A.handled = none) (hn : n ≤ 2 ^ 20) (hm : s.heap.Ns env.locals m)
    (hiter : ∀ Q' : Value → Shared → Prop, (∀ s₁ u, Keeps s s₁ → wpAny (model PG w) A (call (.type "range") [.int n u]) Q' E s₁) → wpAny (model PG w) A (eval iter env) Q' E s)
    (tests : ∀ C i tk s₃ m₃ E', i < n → s₃.heap.Ns C m₃ → m₃ x = some (.int (i : Nat) tk) → Ext s.heap s₃.heap →
      wpAny (model PG w) A (forIn ifs true fun c r => if r = true then do let ok ← isTrue c (compEnvC scope cl C env) (eval c (compEnvC scope cl C env)); pure (ForInStep.yield ok) else pure (ForInStep.yield r))
      (fun ok s₄ => ok = pz i ∧ Keeps s₃ s₄) E' s₃)
    (helt : ∀ C i tk s₃ m₃ E', i < n → pz i = true → s₃.heap.Ns C m₃ → m₃ x = some (.int (i : Nat) tk) → Ext s.heap s₃.heap →
      wpAny (model PG w) A (eval elt (compEnvC scope cl C env)) (fun y s₄ => G i y ∧ Keeps s₃ s₄) E' s₃)
    (hQ : ∀ D h' tk ys, s.heap.get? D = none → h'.PlainList D ys → Paired G ((List.range n).filter pz) ys.toList → h'.Ns env.locals (fun z => if z = y then some (.ref D) else m z) →
      (∀ b o, b ≠ env.locals → s.heap.get? b = some o → h'.get? b = some o) → Q .next { s with heap := h', toks := tk })
    (hs : ∀ x, foldedSetIterable iter env x = pure x := by intro _; rfl) :
    wpAny (model PG w) A (exec (.Assign [.Name y py] (.ListComp elt [⟨.Name x px, iter, ifs, 0⟩] scope pos) spos) env) Q E s := by
  have hz : sizeLine = 2 ^ 24 := rfl
  refine wpAny_Assign_ListComp_free (pOf 0 pz) (fOf 0 G) hsw hclos hcell hkind hnames hx hy hp (hiter _ fun s₁ u k => ?_) hs
  have k1 := keeps_ext k
  refine call_range_1 ?_
  refine wpAny_pyIter_range (IsRange.new ..) (small_one (by decide) (by decide) (by omega) (by omega)) ?_
  dsimp only
  have hsz : Builtin.Range.rangeSize 0 (n : Int) 1 = (n : Int) := by rw [rangeSize_one]; split <;> omega
  rw [hsz]
  have e0 : ∃ r : Obj, r = { cls := .type "range_iterator", data := .fields #[rawInt 0, rawInt n, rawInt 1] } := ⟨_, rfl⟩
  obtain ⟨r, hr⟩ := e0
  rw [← hr]
  generalize hH : s₁.heap.push _ = H₁
  have kH : Ext s.heap H₁ := fun b o e => by rw [← hH]; exact Heap.get?_push_of_some _ (k1 b o e)
  clear hH
  have kr : Ext H₁ (H₁.push r) := fun b o e => Heap.get?_push_of_some _ e
  have hI := Heap.get?_push_size H₁ (o := r) (by rw [hr]; rfl)
  have hfresh : s.heap.get? H₁.objs.size = none := fresh_of_ext kH (Nat.le_refl _)
  have out : ∀ {h' : Heap}, (∀ c o, c ∉ [H₁.objs.size] → (H₁.push r).get? c = some o → h'.get? c = some o) → Ext s.heap h' :=
    fun k c o e => k c o (fun hm => by rw [List.mem_singleton.mp hm, hfresh] at e; cases e) (kr c o (kH c o e))
  have hL : s.heap.get? env.locals ≠ none := by obtain ⟨o, _, _, ho, _⟩ := hm; rw [ho]; nofun
  have ea : ∀ i : Nat, ((0 : Int) + (i : Int) * 1 - 0).toNat = i := fun i => by omega
  refine ⟨H₁.objs.size, [H₁.objs.size], [H₁.objs.size], n, _, _, m, rfl, (Walks.range hh _ 0 1 n).bound, by omega, ?_, ?_, ?_, ?_, ⟨fun C i v s₃ m₃ E' hC hv hN hm hk htk => ?_, fun C i v s₃ m₃ E' hC hv hp hN hm hk htk => ?_⟩, ?_⟩
  · rw [hr] at hI ⊢; show IsRangeIter _ _ _ _ _; simpa using hI
  · intro c hc
    rw [List.mem_singleton.mp hc, Heap.size_push]; exact Nat.lt_succ_self _
  · intro hm'
    rw [List.mem_singleton.mp hm'] at hL
    exact hL hfresh
  · exact hm.keeps fun b o e => kr b o (kH b o e)
  · obtain ⟨hi, t₀, rfl⟩ := hv
    simp only [pOf, ea]
    rw [Int.mul_one, Int.zero_add] at hm
    exact tests C i t₀ s₃ m₃ E' hi hN hm (out hk)
  · obtain ⟨hi, t₀, rfl⟩ := hv
    simp only [pOf, fOf, ea] at hp ⊢
    rw [Int.mul_one, Int.zero_add] at hm
    exact helt C i t₀ s₃ m₃ E' hi hp hN hm (out hk)
  · intro D h' tk ys vs hD hl hpl hlen hP hF hns hk
    obtain ⟨ha, ta, rfl, _⟩ := k
    refine hQ D h' tk ys ?_ hpl ?_ hns fun b o hb e => hk b o hb (fun hm' => by rw [List.mem_singleton.mp hm', hfresh] at e; cases e) (kr b o (kH b o e))
    · cases q : s.heap.get? D with
      | none => rfl
      | some o => have := kr D o (kH D o q); rw [hD] at this; cases this
    · have h1 : Paired (fun (i : Nat) (v : Value) => ∃ t, v = .int (0 + i * 1) t) (List.range n) vs := by
        have := paired_range' (R := fun (i : Nat) (v : Value) => ∃ t, v = .int (0 + i * 1) t) vs 0 (fun j v e => by rw [Nat.zero_add]; exact (hP j v e).2)
        rwa [hlen, ← List.range_eq_range'] at this
      refine paired_filter ?_ ?_ h1 hF
      · rintro i _ ⟨t₀, rfl⟩
        simp only [pOf, ea]
      · rintro i _ y ⟨t₀, rfl⟩ hy
        simp only [fOf, ea] at hy
        exact hy
end
end Mine

namespace Mine
def rot (wd : List Bool) (k : Nat) : List Bool := wd.drop k ++ wd.take k
def beg (wd : List Bool) : List Nat := (List.range wd.length).filter fun k => nb (rot wd k)
theorem rot_length (wd : List Bool) (k : Nat) (h : k ≤ wd.length) : (rot wd k).length = wd.length := by
  unfold rot; rw [List.length_append, List.length_drop, List.length_take]; omega
theorem isTrue_nb_test {w : World} {A : Around} {E : Value → Shared → Prop} {s : Shared} {env : Env} {e : Expr} {b : Bool} (h : wpAny (model PG w) A (isTrue e env (eval e env)) (fun ok s₄ => ok = b ∧ Keeps s s₄) E s) :
    wpAny (model PG w) A (forIn [e] true fun c r => if r = true then do let ok ← isTrue c env (eval c env); pure (ForInStep.yield ok) else pure (ForInStep.yield r)) (fun ok s₄ => ok = b ∧ Keeps s s₄) E s := wpAny_tests_one h
section
variable {w : World} {A : Around} {E : Value → Shared → Prop} {s s' : Shared}
set_option maxHeartbeats 4000000 in
theorem law_begins {m cm : Str → Option Value} {mo : Int} {t u : Tok} {wd : List Bool} {Q : Flow → Shared → Prop} (ok : Ok A 7) (G : Gd w s.heap) (hmo : m (Str.ofString "more") = some (.int mo t))
    (hw : cm (Str.ofString "word") = some (.str (bw wd) u)) (hl : wd.length ≤ 100) (hb : ((beg wd).length : Int) = mo) (X : LW s (LC s) m cm s')
    (h : ∀ m' s'' D ys, m' (Str.ofString "begins") = some (.ref D) → m' (Str.ofString "more") = some (.int mo t) → s''.heap.PlainList D ys → IntsAre ys.toList ((beg wd).map fun k : Nat => (k : Int)) →
      LW s (LC s) m' cm s'' → wpAny (model PG w) A (execs (lawBody.drop 5) (LE s)) Q E s'') :
    wpAny (model PG w) A (execs (lawBody.drop 3) (LE s)) Q E s' := by
  have hsz : sizeLine = 2 ^ 24 := rfl
  have Gx : ∀ {cs m cm s'}, LW s cs m cm s' → Gd w s'.heap := fun X => G.ext X.F.keep
  have hcell : s'.heap.IsCell (s.heap.objs.size + 1) (some (.str (bw wd) u)) := by
    have := X.C.cell (Str.ofString "word") _ rfl
    rw [hw] at this; exact this
  refine wpAny_execs_cons ?_
  refine lc1A (fun k => nb (rot wd k)) (fun i y => ∃ t, y = .int (i : Nat) t) wd.length rfl (cl := [(Str.ofString "word", s.heap.objs.size + 1)]) rfl (by decide) rfl (by decide) (by decide) rfl rfl ok.hh (by omega) X.F.ns ?_ ?_ ?_ ?_
  · intro Q' hk
    refine Call_ ?_
    with_reducible refine bn (Gx X) no_range boot_range (by decide) ?_
    refine PyProof.Rows.callWith_type1 ?_
    refine spliced_more ?_
    refine Call_ ?_
    with_reducible refine bn (Gx X) no_len boot_len (by decide) ?_
    refine PyProof.Rows.callWith_builtin1 ?_
    refine spliced_more ?_
    refine LW.ldC X rfl hw ?_
    refine spliced_none ?_
    refine len_str (by rw [bw_length]; omega) ?_
    refine spliced_none ?_
    rw [bw_length]
    exact hk _ _ (ktok _ _)
  · intro Cn i tki s₃ m₃ E' hi hN hm₃ k3
    have G3 : Gd w s₃.heap := (Gx X).ext k3
    refine isTrue_nb_test ?_
    refine isTrue_plain ?_
    refine Call_ ?_
    with_reducible refine gn G3 (is_never) ?_
    refine callWith_K (K := KK w) G3.X rfl ?_
    refine spliced_more ?_
    refine wpAny_BinOp ?_
    refine sub_from (l := wd) (by omega) ?_
    refine wpAny_Name (wpAny_loadName_cell rfl rfl rfl (hcell.keeps k3) ⟨u, rfl, ?_⟩) (by decide)
    refine wpAny_Name (wpAny_loadName_local rfl rfl hN hm₃ ⟨_, _, rfl, by omega, fun s₄ t' k4 => ?_⟩) (by decide)
    refine sub_to (l := wd) (by omega) ?_
    refine wpAny_Name (wpAny_loadName_cell rfl rfl rfl ((hcell.keeps k3).keeps (keeps_ext k4)) ⟨u, rfl, ?_⟩) (by decide)
    refine wpAny_Name (wpAny_loadName_local rfl rfl (hN.keeps (keeps_ext k4)) hm₃ ⟨_, _, rfl, by omega, fun s₅ t'' k5 => ?_⟩) (by decide)
    refine add_bw (by rw [List.length_drop, List.length_take]; omega) fun t₆ s₆ k6 => ?_
    have k := ktr k4 (ktr k5 k6)
    have G6 := G3.ext (keeps_ext k)
    refine spliced_none ⟨G6.X, ?_⟩
    rw [Int.toNat_natCast]
    have hrl := rot_length wd i (by omega)
    refine never_back_call (l := rot wd i) (ok.mono (by decide)) G6 (by omega) fun s₇ k7 => ?_
    exact wpAny_truthy_bool ⟨rfl, ktr k k7⟩
  · intro Cn i tki s₃ m₃ E' hi hp hN hm₃ k3
    exact wpAny_Name (wpAny_loadName_local rfl rfl hN hm₃ ⟨⟨_, rfl⟩, krefl _⟩) (by decide)
  · intro D h' tk ys hD hpl hP hns hk
    have hI := ints_paired (f := fun i : Nat => (i : Int)) hP
    have XF : Fr s.heap s.heap.objs.size h' _ := ⟨hns, fun b o e => hk b o (Nat.ne_of_lt (Heap.lt_size e)) (X.F.keep b o e), X.F.above⟩
    have XW : Aft s { s' with heap := h', toks := tk } := by
      obtain ⟨h₁, tk₁, g, rfl, k, b⟩ := X.W
      exact ⟨h', tk, g, rfl, XF.keep, b⟩
    have X' : LW s (LC s) _ cm { s' with heap := h', toks := tk } := ⟨XF, X.C.extBut (b := s.heap.objs.size) (fun b o hb e => hk b o hb e) (Nat.le_refl _), XW⟩
    have e1 : (fun z => if z = Str.ofString "begins" then some (Value.ref D) else m z) (Str.ofString "begins") = some (.ref D) := if_pos rfl
    have e2 : (fun z => if z = Str.ofString "begins" then some (Value.ref D) else m z) (Str.ofString "more") = some (.int mo t) := by
      show (if _ then _ else _) = _
      rw [if_neg (by decide +kernel)]; exact hmo
    generalize (fun z => if z = Str.ofString "begins" then some (Value.ref D) else m z) = m' at X' e1 e2
    have hpl' : ({ s' with heap := h', toks := tk } : Shared).heap.PlainList D ys := hpl
    generalize ({ s' with heap := h', toks := tk } : Shared) = s'' at X' hpl' ⊢
    clear hpl hP hns hk XF XW X hcell hmo hD
    have hlen : ys.size = (beg wd).length := by
      have := hI.length
      rw [List.length_map] at this
      exact this
    refine wpAny_execs_cons ?_
    refine wpAny_If ?_
    refine wpAny_isTrue_Compare1 ?_
    refine Call_ ?_
    with_reducible refine bn (Gx X') no_len boot_len (by decide) ?_
    refine PyProof.Rows.callWith_builtin1 ?_
    refine spliced_more ?_
    refine LW.ldL X' e1 ?_
    refine spliced_none ?_
    have hbl : (beg wd).length ≤ 100 := by
      refine Nat.le_trans (List.length_filter_le _ _) ?_
      rw [List.length_range]; exact hl
    refine len_list hpl'.isList (by omega) ?_
    refine LW.ldL (X'.tk _) e2 ?_
    refine ne_int ?_
    refine wpAny_truthy_bool ?_
    rw [if_neg (by rw [hlen, hb]; simp)]
    refine wpAny_execs_nil ?_
    exact h m' _ D ys e1 e2 hpl' hI (X'.tk _)
end
end Mine

namespace Mine
def forBody : List Stmt := match lawBody.drop 5 with | .For _ _ b _ _ :: _ => b | _ => []
/-- what a turn of the law's loop keeps -/
structure TF (s : Shared) (wd : List Bool) (mo : Int) (k : Nat) (D I : Addr) (ob : Obj) (m cm : Str → Option Value) (s' : Shared) : Prop where
  more : ∃ t, m (Str.ofString "more") = some (.int mo t)
  begins : m (Str.ofString "begins") = some (.ref D)
  k : ∃ t, m (Str.ofString "k") = some (.int (k : Nat) t)
  word : ∃ u, cm (Str.ofString "word") = some (.str (bw wd) u)
  list : ∃ ys, s'.heap.PlainList D ys ∧ IntsAre ys.toList ((beg wd).map fun k : Nat => (k : Int))
  it : s'.heap.get? I = some ob
  ia : I ≠ s.heap.objs.size ∧ ∀ n c, (LC s).lookup n = some c → I ≠ c
  X : LW s (LC s) m cm s'
theorem TF.aft {s : Shared} {wd : List Bool} {mo : Int} {k : Nat} {D I : Addr} {ob : Obj} {m cm : Str → Option Value} {s' s'' : Shared} (T : TF s wd mo k D I ob m cm s') (h : Aft s' s'') : TF s wd mo k D I ob m cm s'' :=
  ⟨T.more, T.begins, T.k, T.word, let ⟨ys, p, i⟩ := T.list; ⟨ys, p.at fun o e => h.ext _ o e, i⟩, h.ext _ _ T.it, T.ia, T.X.aft h⟩
theorem TF.keeps {s : Shared} {wd : List Bool} {mo : Int} {k : Nat} {D I : Addr} {ob : Obj} {m cm : Str → Option Value} {s' s'' : Shared} (T : TF s wd mo k D I ob m cm s') (h : Keeps s' s'') : TF s wd mo k D I ob m cm s'' := T.aft (.of h)
theorem TF.gd {w : World} {s : Shared} {wd : List Bool} {mo : Int} {k : Nat} {D I : Addr} {ob : Obj} {m cm : Str → Option Value} {s' : Shared} (T : TF s wd mo k D I ob m cm s') (G : Gd w s.heap) : Gd w s'.heap := G.ext T.X.F.keep
theorem plain_ne_ns {h : Heap} {D L : Addr} {ys : Array Value} {m : Str → Option Value} (p : h.PlainList D ys) (n : h.Ns L m) : D ≠ L := by
  rintro rfl
  obtain ⟨x, p⟩ := p
  obtain ⟨o, es, ep, ho, hd, _⟩ := n
  rw [p] at ho; cases ho; simp_all
theorem plain_ne_cell {h : Heap} {D c : Addr} {ys : Array Value} {v : Option Value} (p : h.PlainList D ys) (n : h.IsCell c v) : D ≠ c := by
  rintro rfl
  obtain ⟨x, p⟩ := p
  obtain ⟨o, ho, hd⟩ := n
  rw [p] at ho; cases ho; simp at hd
section
variable {w : World} {A : Around} {E : Value → Shared → Prop} {s s' : Shared} {wd : List Bool} {mo : Int} {k : Nat} {D I : Addr} {ob : Obj} {m cm : Str → Option Value} {a : Addr} {cd : Value}
/-- a store into a local of other name, or into another cell, keeps it -/
theorem TF.stL {x : Str} {v : Value} {Q : Unit → Shared → Prop} (T : TF s wd mo k D I ob m cm s') (hx : x ≠ Str.ofString "more" ∧ x ≠ Str.ofString "begins" ∧ x ≠ Str.ofString "k")
    (h : ∀ s'' m', m' x = some v → TF s wd mo k D I ob m' cm s'' → (∀ b o, b ≠ s.heap.objs.size → s'.heap.get? b = some o → s''.heap.get? b = some o) → Q () s'')
    (hl : (LE s).kindOf x = some .local := by rfl) :
    wpAny (model PG w) A (storeName (LE s) x v) Q E s' := by
  refine wpAny_storeName_local hl T.X.F.ns (fun h' hn' hs' => ?_) rfl
  have XF := T.X.F.set hn' hs'
  refine h _ _ (if_pos rfl) ⟨?_, ?_, ?_, T.word, ?_, hs'.extBut _ _ T.ia.1 T.it, T.ia, ⟨XF, T.X.C.sameBut hs' (Nat.le_refl _), ?_⟩⟩ fun b o hb e => hs'.extBut b o hb e
  · obtain ⟨t, e⟩ := T.more; exact ⟨t, (if_neg (Ne.symm hx.1)).trans e⟩
  · exact (if_neg (Ne.symm hx.2.1)).trans T.begins
  · obtain ⟨t, e⟩ := T.k; exact ⟨t, (if_neg (Ne.symm hx.2.2)).trans e⟩
  · obtain ⟨ys, p, i⟩ := T.list
    exact ⟨ys, p.extBut hs'.extBut (plain_ne_ns p T.X.F.ns), i⟩
  · obtain ⟨h₁, tk₁, g, rfl, k, b⟩ := T.X.W
    exact ⟨h', _, g, rfl, XF.keep, b⟩
theorem TF.stC {x : Str} {c : Addr} {v : Value} {Q : Unit → Shared → Prop} (T : TF s wd mo k D I ob m cm s') (hx : x ≠ Str.ofString "word") (hc : (LC s).lookup x = some c)
    (h : ∀ s'' cm', cm' x = some v → (∀ y, y ≠ x → cm' y = cm y) → TF s wd mo k D I ob m cm' s'' → (∀ b o, b ≠ c → s'.heap.get? b = some o → s''.heap.get? b = some o) → Q () s'')
    (hl : (LE s).kindOf x = some .cell := by rfl) :
    wpAny (model PG w) A (storeName (LE s) x v) Q E s' := by
  have hcl := T.X.C.cell x c hc
  have hLc : s.heap.objs.size < c := T.X.C.above x c (mem_of_lookup hc)
  refine wpAny_storeName_cell rfl hl hc hcl fun h' hv hs' => ?_
  have XF : Fr s.heap s.heap.objs.size h' m := ⟨T.X.F.ns.sameBut hs' (Nat.ne_of_lt hLc), fun b o e => (hs'.2 b (Nat.ne_of_lt (Nat.lt_trans (Nat.lt_of_lt_of_le (Heap.lt_size e) T.X.F.above) hLc))).trans (T.X.F.keep b o e), T.X.F.above⟩
  refine h _ (fun y => if y = x then some v else cm y) (if_pos rfl) (fun y hy => if_neg hy) ⟨T.more, T.begins, T.k, ?_, ?_, hs'.extBut _ _ (T.ia.2 x c hc) T.it, T.ia, ⟨XF, ⟨fun n c' e => ?_, T.X.C.apart, T.X.C.above⟩, ?_⟩⟩ fun b o hb e => hs'.extBut b o hb e
  · obtain ⟨t, e⟩ := T.word; exact ⟨t, (if_neg (Ne.symm hx)).trans e⟩
  · obtain ⟨ys, p, i⟩ := T.list
    exact ⟨ys, p.extBut hs'.extBut (plain_ne_cell p hcl), i⟩
  · by_cases hn : n = x
    · subst hn; rw [hc] at e; cases e; simpa using hv
    · have hcc : c' ≠ c := fun q => hn (name_of_addr T.X.C.apart (mem_of_lookup e) (q ▸ mem_of_lookup hc))
      simpa [hn] using (T.X.C.cell n c' e).sameBut hs' hcc
  · obtain ⟨h₁, tk₁, g, rfl, k, b⟩ := T.X.W
    exact ⟨h', _, g, rfl, XF.keep, b⟩
theorem TF.in_begins {t : Tok} {Q : Value → Shared → Prop} (T : TF s wd mo k D I ob m cm s') (hk : k < wd.length) (h : Q (.bool (nb (rot wd k))) s') : wpAny (model PG w) A (compareOp .In (.int (k : Nat) t) (.ref D)) Q E s' := by
  obtain ⟨ys, p, i⟩ := T.list
  refine in_list_ints p.isList i ?_
  have e : (((beg wd).map fun k : Nat => (k : Int)).any fun x => x == (k : Int)) = nb (rot wd k) := by
    rw [Bool.eq_iff_iff, List.any_eq_true]
    constructor
    · rintro ⟨x, hx, e⟩
      obtain ⟨j, hj, rfl⟩ := List.mem_map.mp hx
      have : j = k := by have := beq_iff_eq.mp e; omega
      subst this
      exact (List.mem_filter.mp hj).2
    · intro hb
      exact ⟨(k : Int), List.mem_map.mpr ⟨k, List.mem_filter.mpr ⟨List.mem_range.mpr hk, hb⟩, rfl⟩, by simp⟩
  rw [e]; exact h
end
end Mine

namespace Mine
section
variable {w : World} {A : Around} {E : Value → Shared → Prop} {s s' : Shared} {wd : List Bool} {mo : Int} {k : Nat} {D I : Addr} {ob : Obj} {m cm : Str → Option Value} {a : Addr} {cd : Value}
/-- x[1:] of a word in a cell, in the law's own frame -/
theorem cut1 {x : Str} {px p pos p1 : Pos} {kk : Nat} {l : List Bool} {u : Tok} {c : Addr} {Q : Value → Shared → Prop} (X : LW s (LC s) m cm s') (hc : (LC s).lookup x = some c) (hv : cm x = some (.str (bw l) u)) (hl : l.length ≤ 100) (h0 : 1 ≤ l.length)
    (h : ∀ t' s₃, Keeps s' s₃ → Q (.str (bw (l.drop 1)) t') s₃)
    (hl' : (LE s).kindOf x = some .cell := by rfl) (hd : (x == ("__debug__" : Str)) = false := by decide) :
    wpAny (model PG w) A (eval (.Subscript (.Name x px) (.Slice (some (.Constant (.int 1) kk p1)) none none p) pos) (LE s)) Q E s' := by
  refine sub_from (l := l) (by omega) ?_
  refine LW.ldC X hc hv ⟨u, rfl, ?_⟩ rfl hl' hd
  refine cint_k fun tk s₂ k2 => ⟨1, tk, rfl, by omega, fun s₃ t' k3 => ?_⟩
  exact h t' s₃ (ktr k2 k3)

set_option maxHeartbeats 4000000 in
theorem law_t1 {Q : Flow → Shared → Prop} (ok : Ok A 7) (G : Gd w s.heap) (T : TF s wd mo k D I ob m cm s') (hk : k < wd.length) (hl : wd.length ≤ 100)
    (hc0 : chk (rot wd k) = false) (hc1 : chk ((rot wd k).drop 1) = held ((rot wd k).drop 1))
    (h1 : mo = 1 → (((rot wd k)[0]? == some true) && chk ((rot wd k).drop 1)) = nb (rot wd k))
    (h : ∀ cm' s'' u, cm' (Str.ofString "ring") = some (.str (bw (rot wd k)) u) → TF s wd mo k D I ob m cm' s'' → wpAny (model PG w) A (execs (forBody.drop 3) (LE s)) Q E s'') :
    wpAny (model PG w) A (execs forBody (LE s)) Q E s' := by
  have hsz : sizeLine = 2 ^ 24 := rfl
  have hrl := rot_length wd k (by omega)
  obtain ⟨tk, hkk⟩ := T.k
  obtain ⟨uw, hw⟩ := T.word
  obtain ⟨tm, hmo⟩ := T.more
  refine wpAny_execs_cons ?_
  refine wpAny_Assign_Name ?_
  refine wpAny_BinOp ?_
  refine sub_from (l := wd) (by omega) ?_
  refine LW.ldC T.X rfl hw ⟨uw, rfl, ?_⟩
  refine LW.ldL T.X hkk ⟨_, _, rfl, by omega, fun s₄ t' k4 => ?_⟩
  replace T := T.keeps k4
  clear k4
  refine sub_to (l := wd) (by omega) ?_
  refine LW.ldC T.X rfl hw ⟨uw, rfl, ?_⟩
  refine LW.ldL T.X hkk ⟨_, _, rfl, by omega, fun s₅ t'' k5 => ?_⟩
  replace T := T.keeps k5
  clear k5 s₄
  refine add_bw (by rw [List.length_drop, List.length_take]; omega) fun t₆ s₆ k6 => ?_
  replace T := T.keeps k6
  clear k6 s₅
  rw [Int.toNat_natCast, show wd.drop k ++ wd.take k = rot wd k from rfl]
  refine T.stC (by decide +kernel) rfl fun s₇ cm₇ er oc T₁ k₁ => ?_
  replace T := T₁
  clear k₁ T₁ s₆
  generalize hR : rot wd k = R at *
  -- the first test
  refine wpAny_execs_cons ?_
  refine wpAny_If ?_
  refine isTrue_or ?_
  refine isTrue_plain ?_
  refine Call_ ?_
  with_reducible refine gn (T.gd G) is_check ?_
  refine callWith_K (K := KK w) (T.gd G).X rfl ?_
  refine spliced_more ?_
  refine LW.ldC T.X rfl er ?_
  refine spliced_none ⟨(T.gd G).X, ?_⟩
  refine check_call (ok.mono (by decide)) (T.gd G) (by omega) fun s₈ k8 => ?_
  replace T := T.aft k8
  clear k8 s₇
  refine wpAny_truthy_bool ?_
  rw [hc0, if_neg Bool.false_ne_true]
  refine isTrue_or ?_
  refine wpAny_isTrue_Compare1 ?_
  refine Call_ ?_
  with_reducible refine gn (T.gd G) is_check ?_
  refine callWith_K (K := KK w) (T.gd G).X rfl ?_
  refine spliced_more ?_
  refine cut1 T.X rfl er (by omega) (by omega) fun t₉ s₉ k9 => ?_
  replace T := T.keeps k9
  clear k9 s₈
  refine spliced_none ⟨(T.gd G).X, ?_⟩
  refine check_call (ok.mono (by decide)) (T.gd G) (by rw [List.length_drop]; omega) fun s₈ k8 => ?_
  replace T := T.aft k8
  clear k8 s₉
  refine Call_ ?_
  with_reducible refine gn (T.gd G) is_held ?_
  refine callWith_K (K := KK w) (T.gd G).X rfl ?_
  refine spliced_more ?_
  refine cut1 T.X rfl er (by omega) (by omega) fun t₉ s₉ k9 => ?_
  replace T := T.keeps k9
  clear k9 s₈
  refine spliced_none ⟨(T.gd G).X, ?_⟩
  refine held_call (ok.mono (by decide)) (T.gd G) (by rw [List.length_drop]; omega) fun s₈ k8 => ?_
  replace T := T.keeps k8
  clear k8 s₉
  refine PyProof.Rows.ne_bool ?_
  refine wpAny_truthy_bool ?_
  rw [hc1, bne_self_eq_false, if_neg Bool.false_ne_true]
  refine isTrue_or_nil ?_
  rw [if_neg Bool.false_ne_true]
  refine wpAny_execs_nil ?_
  -- the second test
  refine wpAny_execs_cons ?_
  refine wpAny_If ?_
  refine isTrue_and ?_
  refine wpAny_isTrue_Compare1 ?_
  refine LW.ldL T.X hmo ?_
  refine cint_k fun _ s₉ k9 => ?_
  replace T := T.keeps k9
  clear k9 s₈
  refine eq_int ?_
  refine wpAny_truthy_bool ?_
  by_cases hm1 : mo = 1
  · rw [if_pos (by rw [hm1]; rfl)]
    have h1 := h1 hm1
    refine isTrue_and ?_
    refine wpAny_isTrue_Compare1 ?_
    refine BoolOp_and ?_
    refine wpAny_Compare1 ?_
    refine Subscript_ ?_
    refine LW.ldC T.X rfl er ?_
    refine cint_k fun _ s₈ k8 => ?_
    replace T := T.keeps k8
    clear k8 s₉
    obtain ⟨b, hb⟩ : ∃ b, R[0]? = some b := ⟨R[0]'(by omega), List.getElem?_eq_getElem (by omega)⟩
    refine item_bw (by decide) hb (by omega) fun _ s₉ k9 => ?_
    replace T := T.keeps k9
    clear k9 s₈
    refine cstr_k fun _ s₈ k8 => ?_
    replace T := T.keeps k8
    clear k8 s₉
    refine PyProof.Rows.eq_str ?_
    refine wpAny_truthy_bool ?_
    rw [chr_open]
    rw [hb, show (some b == some true) = b from by cases b <;> rfl] at h1
    cases b with
    | true =>
      rw [if_pos rfl]
      rw [Bool.true_and] at h1
      refine BoolOp_one ?_
      refine Call_ ?_
      with_reducible refine gn (T.gd G) is_check ?_
      refine callWith_K (K := KK w) (T.gd G).X rfl ?_
      refine spliced_more ?_
      refine cut1 T.X rfl er (by omega) (by omega) fun t₉ s₉ k9 => ?_
      replace T := T.keeps k9
      clear k9 s₈
      refine spliced_none ⟨(T.gd G).X, ?_⟩
      refine check_call (ok.mono (by decide)) (T.gd G) (by rw [List.length_drop]; omega) fun s₈ k8 => ?_
      replace T := T.aft k8
      clear k8 s₉
      refine wpAny_Compare1 ?_
      refine LW.ldL T.X hkk ?_
      refine LW.ldL T.X T.begins ?_
      refine T.in_begins hk ?_
      refine PyProof.Rows.ne_bool ?_
      refine wpAny_truthy_bool ?_
      rw [h1, hR, bne_self_eq_false, if_neg Bool.false_ne_true, if_neg Bool.false_ne_true]
      refine wpAny_execs_nil ?_
      exact h _ _ _ er T
    | false =>
      rw [if_neg Bool.false_ne_true]
      rw [Bool.false_and] at h1
      refine wpAny_Compare1 ?_
      refine LW.ldL T.X hkk ?_
      refine LW.ldL T.X T.begins ?_
      refine T.in_begins hk ?_
      refine PyProof.Rows.ne_bool ?_
      refine wpAny_truthy_bool ?_
      rw [hR, ← h1, bne_self_eq_false, if_neg Bool.false_ne_true, if_neg Bool.false_ne_true]
      refine wpAny_execs_nil ?_
      exact h _ _ _ er T
  · rw [if_neg (by simpa using hm1), if_neg Bool.false_ne_true]
    refine wpAny_execs_nil ?_
    exact h _ _ _ er T
end
end Mine

namespace Mine
def ifBody : List Stmt := match forBody.drop 3 with | .If _ b _ _ :: _ => b | _ => []
def sp (l : List Bool) (j i : Nat) : Bool := decide (dep (l.take (j + 1 + i)) ≤ dep (l.take j))
def stk (l : List Bool) (j : Nat) : Bool := ((List.range (l.length - j)).filter (sp l j)).isEmpty
def stay (l : List Bool) : List Nat := (List.range l.length).filter (stk l)
def rest (l : List Bool) : List Bool := ((List.range l.length).filter fun j => !stk l j).map fun j => l.getD j true
section
variable {w : World} {A : Around} {E : Value → Shared → Prop} {s s' : Shared} {wd : List Bool} {mo : Int} {k : Nat} {D I : Addr} {ob : Obj} {m cm : Str → Option Value} {a : Addr} {cd : Value}
set_option maxHeartbeats 4000000 in
theorem law_stay {R : List Bool} {u : Tok} {Q : Flow → Shared → Prop} (ok : Ok A 7) (G : Gd w s.heap) (T : TF s wd mo k D I ob m cm s') (hl : R.length ≤ 100)
    (er : cm (Str.ofString "ring") = some (.str (bw R) u))
    (h : ∀ cm' s'' D' ys, cm' (Str.ofString "ring") = some (.str (bw R) u) → cm' (Str.ofString "stay") = some (.ref D') → s''.heap.PlainList D' ys → IntsAre ys.toList ((stay R).map fun k : Nat => (k : Int)) →
      TF s wd mo k D I ob m cm' s'' → wpAny (model PG w) A (execs (ifBody.drop 1) (LE s)) Q E s'') :
    wpAny (model PG w) A (execs ifBody (LE s)) Q E s' := by
  have hsz : sizeLine = 2 ^ 24 := rfl
  have hring : s'.heap.IsCell (s.heap.objs.size + 1 + 1) (some (.str (bw R) u)) := by
    have := T.X.C.cell (Str.ofString "ring") _ rfl
    rw [er] at this; exact this
  refine wpAny_execs_cons ?_
  refine wpAny_Assign_Name ?_
  refine lcC (stk R) (fun i y => ∃ t, y = .int (i : Nat) t) R.length (cl := [(Str.ofString "ring", s.heap.objs.size + 1 + 1)]) rfl (fun _ => rfl) (fun _ => rfl) rfl (by decide) (fun _ _ => rfl) ok.hh (by omega) ?_ ?_ ?_ ?_
  · intro Q' hk
    refine Call_ ?_
    with_reducible refine bn (T.gd G) no_range boot_range (by decide) ?_
    refine PyProof.Rows.callWith_type1 ?_
    refine spliced_more ?_
    refine Call_ ?_
    with_reducible refine bn (T.gd G) no_len boot_len (by decide) ?_
    refine PyProof.Rows.callWith_builtin1 ?_
    refine spliced_more ?_
    refine LW.ldC T.X rfl er ?_
    refine spliced_none ?_
    refine len_str (by rw [bw_length]; omega) ?_
    refine spliced_none ?_
    rw [bw_length]
    exact hk _ _ (ktok _ _)
  · intro Cn c j tj s₃ E' hj hcj k3
    have G3 : Gd w s₃.heap := (T.gd G).ext k3
    refine wpAny_tests_one ?_
    refine wpAny_isTrue_Compare1 ?_
    refine lc2 (j + 1) (R.length + 1) (sp R j) (fun i y => ∃ t, y = .int (j + 1 + i) t) (R.length - j) (cl := [(Str.ofString "ring", s.heap.objs.size + 1 + 1), (Str.ofString "j", c)]) rfl (by decide) rfl (by decide) (by decide)
      ok.hh (by omega) (by omega) (by omega) (by omega) (by omega) (by omega) ?_ ?_ ?_ ?_
    · intro Q' hk
      refine Call_ ?_
      with_reducible refine bn G3 no_range boot_range (by decide) ?_
      refine PyProof.Rows.callWith_type1 ?_
      refine spliced_more ?_
      refine wpAny_BinOp ?_
      refine wpAny_Name (wpAny_loadName_cell rfl rfl rfl hcj ?_) (by decide)
      refine cint_k fun _ s₄ k4 => ?_
      refine add_k fun _ s₅ k5 => ?_
      have k := ktr k4 k5
      refine spliced_more ?_
      refine wpAny_BinOp ?_
      refine Call_ ?_
      with_reducible refine bn (G3.ext (keeps_ext k)) no_len boot_len (by decide) ?_
      refine PyProof.Rows.callWith_builtin1 ?_
      refine spliced_more ?_
      refine wpAny_Name (wpAny_loadName_cell rfl rfl rfl ((hring.keeps k3).keeps (keeps_ext k)) ?_) (by decide)
      refine spliced_none ?_
      refine len_str (by rw [bw_length]; omega) ?_
      refine cint_k fun _ s₆ k6 => ?_
      refine add_k fun _ s₇ k7 => ?_
      refine spliced_none ?_
      rw [bw_length]
      exact hk _ _ _ (ktr k (ktr (ktok _ _) (ktr k6 k7)))
    · intro Cm i ti s₄ m₄ E'' hi hN hm₄ k4
      have G4 := G3.ext k4
      refine wpAny_tests_one ?_
      refine wpAny_isTrue_Compare1 ?_
      refine Call_ ?_
      with_reducible refine gn G4 is_depth ?_
      refine callWith_K (K := KK w) G4.X rfl ?_
      refine spliced_more ?_
      refine sub_to (l := R) (by omega) ?_
      refine wpAny_Name (wpAny_loadName_cell rfl rfl rfl ((hring.keeps k3).keeps k4) ⟨u, rfl, ?_⟩) (by decide)
      refine wpAny_Name (wpAny_loadName_local rfl rfl hN hm₄ ⟨_, _, rfl, by omega, fun s₅ t' k5 => ?_⟩) (by decide)
      have G5 := G4.ext (keeps_ext k5)
      refine spliced_none ⟨G5.X, ?_⟩
      refine law_depth_call (ok.mono (by decide)) G5 (by rw [List.length_take]; omega) fun tk s₆ k6 => ?_
      have G6 := G5.ext (keeps_ext k6)
      refine Call_ ?_
      with_reducible refine gn G6 is_depth ?_
      refine callWith_K (K := KK w) G6.X rfl ?_
      refine spliced_more ?_
      refine sub_to (l := R) (by omega) ?_
      have k46 := keeps_ext (ktr k5 k6)
      refine wpAny_Name (wpAny_loadName_cell rfl rfl rfl (((hring.keeps k3).keeps k4).keeps k46) ⟨u, rfl, ?_⟩) (by decide)
      refine wpAny_Name (wpAny_loadName_cell rfl rfl rfl ((hcj.keeps k4).keeps k46) ⟨_, _, rfl, by omega, fun s₇ t'' k7 => ?_⟩) (by decide)
      have G7 := G6.ext (keeps_ext k7)
      refine spliced_none ⟨G7.X, ?_⟩
      refine law_depth_call (ok.mono (by decide)) G7 (by rw [List.length_take]; omega) fun tk' s₈ k8 => ?_
      refine le_int ?_
      refine wpAny_truthy_bool ⟨?_, ktr k5 (ktr k6 (ktr k7 k8))⟩
      unfold sp
      rw [show ((j : Int) + 1 + (i : Int)).toNat = j + 1 + i from by omega, show ((j : Int)).toNat = j from by omega]
    · intro Cm i ti s₄ m₄ E'' hi hp hN hm₄ k4
      exact wpAny_Name (wpAny_loadName_local rfl rfl hN hm₄ ⟨⟨_, rfl⟩, krefl _⟩) (by decide)
    · intro D₂ s₄ ys hD hpl hP k4
      refine eq_nil (by have := ok.un; omega) hpl (ints_paired (f := fun i : Nat => (j : Int) + 1 + i) hP) fun s₅ k5 => ?_
      refine wpAny_truthy_bool ⟨?_, ktr k4 k5⟩
      unfold stk; rw [List.isEmpty_map]
  · intro Cn c i ti s₃ E' hi hp hci k3
    exact wpAny_Name (wpAny_loadName_cell rfl rfl rfl hci ⟨⟨_, rfl⟩, krefl _⟩) (by decide)
  · intro D₂ s₄ ys hD hpl hP k4
    replace T := T.keeps k4
    refine T.stC (by decide +kernel) rfl fun s₅ cm₅ es oc T₁ k₁ => ?_
    refine h cm₅ s₅ D₂ ys ((oc _ (by decide +kernel)).trans er) es ?_ (ints_paired (f := fun i : Nat => (i : Int)) hP) T₁
    exact hpl.at fun o e => k₁ _ o (plain_ne_cell hpl (T.X.C.cell (Str.ofString "stay") _ rfl)) e
end
end Mine

namespace Mine
theorem any_stay (R : List Bool) {j : Nat} (hj : j < R.length) : (((stay R).map fun k : Nat => (k : Int)).any fun x => x == (j : Int)) = stk R j := by
  rw [Bool.eq_iff_iff, List.any_eq_true]
  constructor
  · rintro ⟨x, hx, e⟩
    obtain ⟨i, hi, rfl⟩ := List.mem_map.mp hx
    have : i = j := by have := beq_iff_eq.mp e; omega
    subst this
    exact (List.mem_filter.mp hi).2
  · intro hb
    exact ⟨(j : Int), List.mem_map.mpr ⟨j, List.mem_filter.mpr ⟨List.mem_range.mpr hj, hb⟩, rfl⟩, by simp⟩
section
variable {w : World} {A : Around} {E : Value → Shared → Prop} {s s' : Shared} {wd : List Bool} {mo : Int} {k : Nat} {D I : Addr} {ob : Obj} {m cm : Str → Option Value} {a : Addr} {cd : Value}
set_option maxHeartbeats 4000000 in
theorem law_rest {R : List Bool} {u : Tok} {D' : Addr} {zs : Array Value} {Q : Flow → Shared → Prop} (ok : Ok A 7) (G : Gd w s.heap) (T : TF s wd mo k D I ob m cm s') (hl : R.length ≤ 100)
    (er : cm (Str.ofString "ring") = some (.str (bw R) u)) (es : cm (Str.ofString "stay") = some (.ref D')) (hpl : s'.heap.PlainList D' zs) (hI : IntsAre zs.toList ((stay R).map fun k : Nat => (k : Int)))
    (hs1 : ((stay R).length : Int) = mo) (hs2 : (stay R)[0]? = some 0) (hs3 : chk (rest R) = true) (hs4 : held (rest R) = true)
    (h : ∀ m' s'' u', m' (Str.ofString "rest") = some (.str (bw (rest R)) u') → TF s wd mo k D I ob m' cm s'' → wpAny (model PG w) A (execs (ifBody.drop 3) (LE s)) Q E s'') :
    wpAny (model PG w) A (execs (ifBody.drop 1) (LE s)) Q E s' := by
  have hsz : sizeLine = 2 ^ 24 := rfl
  have hring : s'.heap.IsCell (s.heap.objs.size + 1 + 1) (some (.str (bw R) u)) := by
    have := T.X.C.cell (Str.ofString "ring") _ rfl
    rw [er] at this; exact this
  have hstay : s'.heap.IsCell (s.heap.objs.size + 1 + 1 + 1) (some (.ref D')) := by
    have := T.X.C.cell (Str.ofString "stay") _ rfl
    rw [es] at this; exact this
  have hrest : (rest R).length ≤ 100 := by
    unfold rest; rw [List.length_map]
    refine Nat.le_trans (List.length_filter_le _ _) ?_
    rw [List.length_range]; exact hl
  refine wpAny_execs_cons ?_
  refine wpAny_Assign_Name ?_
  refine MethodCall_ ?_
  refine cstr_k fun _ s₁ k1 => ?_
  replace T := T.keeps k1
  replace hring := hring.keeps (keeps_ext k1)
  replace hstay := hstay.keeps (keeps_ext k1)
  replace hpl := hpl.at fun o e => keeps_ext k1 _ o e
  clear k1
  with_reducible refine gm_join ?_
  refine callWith_method1 (spliced_more ?_)
  refine lc1 (fun j => !stk R j) (fun i y => ∃ t, y = .str ⟨#[bc (R.getD i true)]⟩ t) R.length (cl := [(Str.ofString "stay", s.heap.objs.size + 1 + 1 + 1), (Str.ofString "ring", s.heap.objs.size + 1 + 1)]) rfl (by decide) rfl (by decide) (by decide) ok.hh (by omega) ?_ ?_ ?_ ?_
  · intro Q' hk
    refine Call_ ?_
    with_reducible refine bn (T.gd G) no_range boot_range (by decide) ?_
    refine PyProof.Rows.callWith_type1 ?_
    refine spliced_more ?_
    refine Call_ ?_
    with_reducible refine bn (T.gd G) no_len boot_len (by decide) ?_
    refine PyProof.Rows.callWith_builtin1 ?_
    refine spliced_more ?_
    refine LW.ldC T.X rfl er ?_
    refine spliced_none ?_
    refine len_str (by rw [bw_length]; omega) ?_
    refine spliced_none ?_
    rw [bw_length]
    exact hk _ _ (ktok _ _)
  · intro Cn i ti s₃ m₃ E' hi hN hm₃ k3
    refine wpAny_tests_one ?_
    refine wpAny_isTrue_Compare1 ?_
    refine wpAny_Name (wpAny_loadName_local rfl rfl hN hm₃ ?_) (by decide)
    refine wpAny_Name (wpAny_loadName_cell rfl rfl rfl (hstay.keeps k3) ?_) (by decide)
    refine notin_list_ints (hpl.at fun o e => k3 _ o e).isList hI ?_
    rw [any_stay R hi]
    exact wpAny_truthy_bool ⟨rfl, krefl _⟩
  · intro Cn i ti s₃ m₃ E' hi hp hN hm₃ k3
    refine Subscript_ ?_
    refine wpAny_Name (wpAny_loadName_cell rfl rfl rfl (hring.keeps k3) ?_) (by decide)
    refine wpAny_Name (wpAny_loadName_local rfl rfl hN hm₃ ?_) (by decide)
    refine item_bw (b := R.getD i true) (by omega) (by rw [Int.toNat_natCast, List.getD, List.getElem?_eq_getElem hi]; rfl) (by omega) fun tk s₄ k4 => ?_
    exact ⟨⟨tk, rfl⟩, k4⟩
  · intro D₂ s₄ ys hD hpl₂ hP k4
    replace T := T.keeps k4
    replace hpl := hpl.at fun o e => keeps_ext k4 _ o e
    refine spliced_none ?_
    have hS := strs_paired hP
    rw [show ((List.range R.length).filter fun j => !stk R j).map (fun i => (⟨#[bc (R.getD i true)]⟩ : Str)) = (rest R).map fun b => (⟨#[bc b]⟩ : Str) from by unfold rest; rw [List.map_map]; rfl] at hS
    refine join_bits rfl (by omega) hpl₂ hS fun t₅ s₅ k5 => ?_
    replace T := T.keeps k5
    replace hpl := hpl.at fun o e => keeps_ext k5 _ o e
    clear hS hP hpl₂ k4 k5 hring hstay hD
    refine T.stL ⟨by decide +kernel, by decide +kernel, by decide +kernel⟩ fun s₆ m₆ em T₁ k₁ => ?_
    replace hpl := hpl.at fun o e => k₁ _ o (plain_ne_ns hpl T.X.F.ns) e
    replace T := T₁
    clear k₁ T₁
    obtain ⟨tm, hmo⟩ := T.more
    have hzl : zs.size = (stay R).length := by
      have := hI.length
      rw [List.length_map] at this
      exact this
    have hst : (stay R).length ≤ 100 := by
      refine Nat.le_trans (List.length_filter_le _ _) ?_
      rw [List.length_range]; exact hl
    refine wpAny_execs_cons ?_
    refine wpAny_If ?_
    refine isTrue_or ?_
    refine wpAny_isTrue_Compare1 ?_
    refine Call_ ?_
    with_reducible refine bn (T.gd G) no_len boot_len (by decide) ?_
    refine PyProof.Rows.callWith_builtin1 ?_
    refine spliced_more ?_
    refine LW.ldC T.X rfl es ?_
    refine spliced_none ?_
    refine len_list hpl.isList (by omega) ?_
    refine LW.ldL (T.X.tk _) hmo ?_
    refine ne_int ?_
    refine wpAny_truthy_bool ?_
    rw [if_neg (by rw [hzl, hs1]; simp)]
    refine isTrue_or ?_
    refine wpAny_isTrue_Compare1 ?_
    refine Subscript_ ?_
    refine LW.ldC (T.X.tk _) rfl es ?_
    refine cint_k fun _ s₇ k7 => ?_
    replace T := T.keeps (ktr (ktok _ _) k7)
    replace hpl := hpl.at fun o e => keeps_ext k7 _ o e
    clear k7
    refine item_list_intsR (vs := zs.toList) (by simpa using hpl.isList) hI (by decide) ?_ (by decide) ?_
    · rw [List.length_map]
      have := (List.getElem?_eq_some_iff.mp hs2).1
      omega
    intro t₇
    have e0 : (((stay R).map fun k : Nat => (k : Int)).getD (0 : Int).toNat 0) = 0 := by
      show (((stay R).map fun k : Nat => (k : Int))[0]?).getD 0 = 0
      rw [List.getElem?_map, hs2]; rfl
    rw [e0]
    refine cint_k fun _ s₈ k8 => ?_
    replace T := T.keeps k8
    clear k8 hpl
    refine ne_int ?_
    refine wpAny_truthy_bool ?_
    rw [if_neg (by decide)]
    refine isTrue_or ?_
    refine isTrue_not ?_
    refine isTrue_plain ?_
    refine Call_ ?_
    with_reducible refine gn (T.gd G) is_check ?_
    refine callWith_K (K := KK w) (T.gd G).X rfl ?_
    refine spliced_more ?_
    refine LW.ldL T.X em ?_
    refine spliced_none ⟨(T.gd G).X, ?_⟩
    refine check_call (ok.mono (by decide)) (T.gd G) (by omega) fun s₉ k9 => ?_
    replace T := T.aft k9
    clear k9
    refine wpAny_truthy_bool ?_
    rw [hs3, if_neg (by decide)]
    refine isTrue_or ?_
    refine isTrue_not ?_
    refine isTrue_plain ?_
    refine Call_ ?_
    with_reducible refine gn (T.gd G) is_held ?_
    refine callWith_K (K := KK w) (T.gd G).X rfl ?_
    refine spliced_more ?_
    refine LW.ldL T.X em ?_
    refine spliced_none ⟨(T.gd G).X, ?_⟩
    refine held_call (ok.mono (by decide)) (T.gd G) (by omega) fun s₁₀ k10 => ?_
    replace T := T.keeps k10
    clear k10
    refine wpAny_truthy_bool ?_
    rw [hs4, if_neg (by decide)]
    refine isTrue_or_nil ?_
    rw [if_neg Bool.false_ne_true]
    refine wpAny_execs_nil ?_
    exact h _ _ _ em T
end
end Mine

namespace Mine
def flip (l : List Bool) : List Bool := l.reverse.map fun b => !b
theorem sign_bit {l : List Bool} {i : Nat} {v : Value} (h : SignAt (bw l) i v) : ∃ b t, l[i]? = some b ∧ v = .str ⟨#[bc b]⟩ t := by
  obtain ⟨c, t, hc, rfl⟩ := h
  have hi : i < l.length := by
    have := (Array.getElem?_eq_some_iff.mp hc).1
    rwa [bw_size] at this
  have e : (bw l).cps[i]? = some (bc l[i]) := by simp [bw, hi]
  rw [e] at hc
  exact ⟨l[i], t, by simp [hi], by rw [Option.some.inj hc]⟩
theorem bc_inj {a b : Bool} (h : bc a = bc b) : a = b := by cases a <;> cases b <;> simp_all [bc]
theorem paired_flip : ∀ {ws ys : List Value} {L : List Bool}, (∀ (j : Nat) (v : Value), ws[j]? = some v → ∃ b t, L[j]? = some b ∧ v = Value.str ⟨#[bc b]⟩ t) → ws.length = L.length →
    Paired (fun v y => ∃ b t u, v = Value.str ⟨#[bc b]⟩ t ∧ y = Value.str ⟨#[bc (!b)]⟩ u) ws ys → StrsAre ys ((L.map fun b => !b).map fun b => (⟨#[bc b]⟩ : Str))
  | _, _, [], _, _, .nil => .nil
  | _, _, _ :: _, _, hl, .nil => by cases hl
  | _, _, [], _, hl, .cons _ _ => by cases hl
  | _, _, n :: L, hw, hl, .cons h r => by
    obtain ⟨n', t', u, rfl, rfl⟩ := h
    obtain ⟨b, t, hb, e⟩ := hw 0 _ rfl
    have e1 : n = b := by simpa using hb
    have e2 : n' = b := by
      have e3 := congrArg Str.cps (Value.str.inj e).1
      have e4 : bc n' = bc b := by simpa using e3
      exact bc_inj e4
    subst e1; subst e2
    exact .cons _ _ (paired_flip (fun j v hj => by simpa using hw (j + 1) v (by simpa using hj)) (by simpa using hl) r)
section
variable {w : World} {A : Around} {E : Value → Shared → Prop} {s s' : Shared} {wd : List Bool} {mo : Int} {k : Nat} {D I : Addr} {ob : Obj} {m cm : Str → Option Value} {a : Addr} {cd : Value}
set_option maxHeartbeats 4000000 in
theorem law_back {L : List Bool} {u : Tok} {Q : Flow → Shared → Prop} (ok : Ok A 7) (G : Gd w s.heap) (T : TF s wd mo k D I ob m cm s') (hl : L.length ≤ 100)
    (er : m (Str.ofString "rest") = some (.str (bw L) u)) (hs : chk (flip L) = true)
    (h : ∀ m' s'', TF s wd mo k D I ob m' cm s'' → wpAny (model PG w) A (execs (ifBody.drop 5) (LE s)) Q E s'') :
    wpAny (model PG w) A (execs (ifBody.drop 3) (LE s)) Q E s' := by
  have hsz : sizeLine = 2 ^ 24 := rfl
  refine wpAny_execs_cons ?_
  refine wpAny_Assign_Name ?_
  refine MethodCall_ ?_
  refine cstr_k fun _ s₁ k1 => ?_
  replace T := T.keeps k1
  clear k1
  with_reducible refine gm_join ?_
  refine callWith_method1 (spliced_more ?_)
  refine lcX L.reverse.length (SignAt (bw L.reverse)) (fun v y => ∃ b t u, v = .str ⟨#[bc b]⟩ t ∧ y = .str ⟨#[bc (!b)]⟩ u) rfl (by decide) rfl (by decide) (by decide) (by rw [List.length_reverse]; omega) ?_ ?_ ?_
  · refine Subscript_ ?_
    refine LW.ldL T.X er ?_
    refine wpAny_Slice ?_
    refine evalPart_none_step ?_
    refine evalPart_none_step ?_
    refine evalPart_some_step ?_
    refine UnaryOp_ ?_
    refine cint_k fun _ s₂ k2 => ?_
    refine PyProof.Rows.neg_int ?_
    refine rev_bw (s := { s₂ with toks := s₂.toks + 1 }) (uk := s₂.toks) (by omega) fun tk s₃ k3 => ?_
    have hasc := bc_ascii L.reverse
    refine wpAny_pyIter_ascii hasc ?_
    have W := Walks.strAscii (prog := PG) (w := w) (A := A) ok.hh s₃.heap.objs.size (bw L.reverse) tk
    rw [bw_size] at W
    have k := ktr k2 (ktr (ktok s₂ (s₂.toks + 1)) k3)
    refine ⟨ktr k ⟨_, _, rfl, fun b o e => Heap.get?_push_of_some _ e⟩, _, _, _, _, rfl, W, ⟨_, Heap.get?_push_size _ rfl, rfl, rfl⟩, ?_, ?_⟩
    · intro b hb
      rw [List.mem_singleton.mp hb, Heap.size_push]; exact Nat.lt_succ_self _
    · intro b hb
      rw [List.mem_singleton.mp hb]; exact fresh_of_ext (keeps_ext k) (Nat.le_refl _)
  · rintro Cn i v s₃ m₃ E' hv hN hm₃ k3
    obtain ⟨b, tb, _, rfl⟩ := sign_bit hv
    refine Subscript_ ?_
    refine cstr_k fun _ s₄ k4 => ?_
    refine Call_ ?_
    with_reducible refine bn (((T.gd G).ext k3).ext (keeps_ext k4)) no_int boot_int (by decide) ?_
    refine PyProof.Rows.callWith_type1 ?_
    refine spliced_more ?_
    refine wpAny_Compare1 ?_
    refine wpAny_Name (wpAny_loadName_local rfl rfl (hN.keeps (keeps_ext k4)) hm₃ ?_) (by decide)
    refine cstr_k fun _ s₅ k5 => ?_
    refine PyProof.Rows.eq_str ?_
    rw [chr_open]
    refine spliced_none ?_
    refine call_int_bool ?_
    rw [pair_bw]
    refine item_bw (b := !b) (by cases b <;> decide) (by cases b <;> rfl) (by decide) fun tk s₆ k6 => ?_
    exact ⟨⟨b, _, _, rfl, rfl⟩, ktr k4 (ktr k5 (ktr (ktok _ _) k6))⟩
  · intro D₂ s₂ ys ws hD hpl hwl hw hp k2
    replace T := T.keeps k2
    refine spliced_none ?_
    refine join_bits (bs := flip L) rfl (by unfold flip; rw [List.length_map, List.length_reverse]; omega) hpl (paired_flip (fun j v hj => sign_bit (hw j v hj)) hwl hp) fun t₃ s₃ k3 => ?_
    replace T := T.keeps k3
    refine T.stL ⟨by decide +kernel, by decide +kernel, by decide +kernel⟩ fun s₆ m₆ em T₁ k₁ => ?_
    replace T := T₁
    refine wpAny_execs_cons ?_
    refine wpAny_If ?_
    refine isTrue_not ?_
    refine isTrue_plain ?_
    refine Call_ ?_
    with_reducible refine gn (T.gd G) is_check ?_
    refine callWith_K (K := KK w) (T.gd G).X rfl ?_
    refine spliced_more ?_
    refine LW.ldL T.X em ?_
    refine spliced_none ⟨(T.gd G).X, ?_⟩
    refine check_call (ok.mono (by decide)) (T.gd G) (by unfold flip; rw [List.length_map, List.length_reverse]; omega) fun s₉ k9 => ?_
    replace T := T.aft k9
    refine wpAny_truthy_bool ?_
    rw [hs, if_neg (by decide)]
    refine wpAny_execs_nil ?_
    exact h _ _ T
end
end Mine

namespace Mine
structure Facts (wd : List Bool) (mo : Int) : Prop where
  beg : ((beg wd).length : Int) = mo
  c0 : ∀ k, k < wd.length → chk (rot wd k) = false
  c1 : ∀ k, k < wd.length → chk ((rot wd k).drop 1) = held ((rot wd k).drop 1)
  c2 : ∀ k, k < wd.length → mo = 1 → (((rot wd k)[0]? == some true) && chk ((rot wd k).drop 1)) = nb (rot wd k)
  s1 : ∀ k, k < wd.length → nb (rot wd k) = true → ((stay (rot wd k)).length : Int) = mo
  s2 : ∀ k, k < wd.length → nb (rot wd k) = true → (stay (rot wd k))[0]? = some 0
  s3 : ∀ k, k < wd.length → nb (rot wd k) = true → chk (rest (rot wd k)) = true
  s4 : ∀ k, k < wd.length → nb (rot wd k) = true → held (rest (rot wd k)) = true
  s5 : ∀ k, k < wd.length → nb (rot wd k) = true → chk (flip (rest (rot wd k))) = true
theorem rest_length (R : List Bool) : (rest R).length ≤ R.length := by
  unfold rest; rw [List.length_map]
  refine Nat.le_trans (List.length_filter_le _ _) ?_
  rw [List.length_range]; exact Nat.le_refl _
section
variable {w : World} {A : Around} {E : Value → Shared → Prop} {s s' : Shared} {wd : List Bool} {mo : Int} {k : Nat} {D I : Addr} {ob : Obj} {m cm : Str → Option Value}
set_option maxHeartbeats 4000000 in
theorem law_turn {Q : Flow → Shared → Prop} (ok : Ok A 7) (G : Gd w s.heap) (T : TF s wd mo k D I ob m cm s') (hk : k < wd.length) (hl : wd.length ≤ 100) (F : Facts wd mo)
    (h : ∀ m' cm' s'', TF s wd mo k D I ob m' cm' s'' → Q .next s'') : wpAny (model PG w) A (execs forBody (LE s)) Q E s' := by
  have hrl := rot_length wd k (by omega)
  refine law_t1 ok G T hk hl (F.c0 k hk) (F.c1 k hk) (F.c2 k hk) fun cm₁ s₁ u er T => ?_
  obtain ⟨tk, hkk⟩ := T.k
  refine wpAny_execs_cons ?_
  refine wpAny_If ?_
  refine wpAny_isTrue_Compare1 ?_
  refine LW.ldL T.X hkk ?_
  refine LW.ldL T.X T.begins ?_
  refine T.in_begins hk ?_
  refine wpAny_truthy_bool ?_
  cases hnb : nb (rot wd k) with
  | false =>
    rw [if_neg Bool.false_ne_true]
    refine wpAny_execs_nil ?_
    refine wpAny_execs_nil ?_
    exact h _ _ _ T
  | true =>
    rw [if_pos rfl]
    refine law_stay ok G T (by omega) er fun cm₂ s₂ D₂ ys er es hpl hI T => ?_
    refine law_rest ok G T (by omega) er es hpl hI (F.s1 k hk hnb) (F.s2 k hk hnb) (F.s3 k hk hnb) (F.s4 k hk hnb) fun m₃ s₃ u₃ em T => ?_
    have hrest := rest_length (rot wd k)
    refine law_back ok G T (by omega) em (F.s5 k hk hnb) fun m₄ s₄ T => ?_
    refine wpAny_execs_nil ?_
    refine wpAny_execs_nil ?_
    exact h _ _ _ T

def LI (s : Shared) (wd : List Bool) (mo : Int) (D I : Addr) (n : Nat) (s' : Shared) : Prop :=
  ∃ m cm i ys t u, i + n = wd.length ∧ m (Str.ofString "more") = some (.int mo t) ∧ m (Str.ofString "begins") = some (.ref D) ∧ cm (Str.ofString "word") = some (.str (bw wd) u) ∧
    s'.heap.PlainList D ys ∧ IntsAre ys.toList ((beg wd).map fun k : Nat => (k : Int)) ∧ IsRangeIter s'.heap I (0 + (i : Nat) * 1) ((wd.length : Int) - (i : Nat)) 1 ∧ LW s (LC s) m cm s'

set_option maxHeartbeats 4000000 in
theorem law_for {t u : Tok} {ys : Array Value} {Q : Flow → Shared → Prop} (ok : Ok A 7) (G : Gd w s.heap) (hmo : m (Str.ofString "more") = some (.int mo t)) (hb : m (Str.ofString "begins") = some (.ref D))
    (hw : cm (Str.ofString "word") = some (.str (bw wd) u)) (hl : wd.length ≤ 100) (hpl : s'.heap.PlainList D ys) (hI : IntsAre ys.toList ((beg wd).map fun k : Nat => (k : Int))) (F : Facts wd mo) (X : LW s (LC s) m cm s')
    (h : ∀ s'', Aft s s'' → Q (.ret (.bool true)) s'') : wpAny (model PG w) A (execs (lawBody.drop 5) (LE s)) Q E s' := by
  have hsz : sizeLine = 2 ^ 24 := rfl
  have Gx : ∀ {cs m cm s'}, LW s cs m cm s' → Gd w s'.heap := fun X => G.ext X.F.keep
  refine wpAny_execs_cons ?_
  refine wpAny_For ?_ (fun _ => rfl)
  refine Call_ ?_
  with_reducible refine bn (Gx X) no_range boot_range (by decide) ?_
  refine PyProof.Rows.callWith_type1 ?_
  refine spliced_more ?_
  refine Call_ ?_
  with_reducible refine bn (Gx X) no_len boot_len (by decide) ?_
  refine PyProof.Rows.callWith_builtin1 ?_
  refine spliced_more ?_
  refine LW.ldC X rfl hw ?_
  refine spliced_none ?_
  refine len_str (by rw [bw_length]; omega) ?_
  refine spliced_none ?_
  rw [bw_length]
  refine call_range_1 ?_
  refine wpAny_pyIter_range (IsRange.new ..) (small_one (by decide) (by decide) (by omega) (by omega)) ?_
  dsimp only
  have hrs : Builtin.Range.rangeSize 0 (wd.length : Int) 1 = (wd.length : Int) := by rw [rangeSize_one]; split <;> omega
  rw [hrs]
  have e0 : ∃ r : Obj, r = { cls := .type "range_iterator", data := .fields #[rawInt 0, rawInt wd.length, rawInt 1] } := ⟨_, rfl⟩
  obtain ⟨r, hr⟩ := e0
  rw [← hr]
  generalize hH : s'.heap.push _ = H₁
  have kH : Ext s'.heap H₁ := fun b o e => by rw [← hH]; exact Heap.get?_push_of_some _ e
  clear hH
  have kr : Ext H₁ (H₁.push r) := fun b o e => Heap.get?_push_of_some _ e
  have W := Walks.range (prog := PG) (w := w) (A := A) ok.hh H₁.objs.size 0 1 wd.length
  have hfr : ∀ {b o}, s'.heap.get? b = some o → H₁.objs.size ≠ b := fun e => Nat.ne_of_gt (Heap.lt_size (kH _ _ e))
  have ia : H₁.objs.size ≠ s.heap.objs.size ∧ ∀ n c, (LC s).lookup n = some c → H₁.objs.size ≠ c := by
    constructor
    · obtain ⟨o, _, _, ho, _⟩ := X.F.ns
      exact hfr ho
    · intro n c hc
      obtain ⟨o, ho, _⟩ := X.C.cell n c hc
      exact hfr ho
  have hlow : ∀ {b o}, s.heap.get? b = some o → H₁.objs.size ≠ b := fun e => hfr (X.F.keep _ _ e)
  refine codeAny_forLoop_any (LI s wd mo D H₁.objs.size) ?_ wd.length ?_
  · rintro n s₁ ⟨m, cm, i, ys, t, u, hin, hmo, hb, hw, hpl, hI, hit, X⟩
    by_cases hlt : i < wd.length
    · refine W.item i _ _ _ hlt hit fun v h₁ tk₁ hv hit₁ hk₁ => ?_
      obtain ⟨tv, rfl⟩ := hv
      refine wpAny_of_eq (a := ()) rfl ?_
      have wI : ∀ {b : Addr}, H₁.objs.size ≠ b → b ∉ [H₁.objs.size] := fun h hm => h (List.mem_singleton.mp hm).symm
      have hDI : H₁.objs.size ≠ D := by
        rintro rfl
        obtain ⟨_, p⟩ := hpl
        have hit : s₁.heap.get? H₁.objs.size = some _ := hit
        rw [p] at hit; simp at hit
      have X₁ : LW s (LC s) m cm { s₁ with heap := h₁, toks := tk₁ } := by
        have keep : Ext s.heap h₁ := fun b o e => hk₁ b o (wI (hlow e)) (X.F.keep b o e)
        refine ⟨⟨X.F.ns.at' fun o e => hk₁ _ o (wI ia.1) e, keep, X.F.above⟩, ⟨fun n c hc => ?_, X.C.apart, X.C.above⟩, ?_⟩
        · obtain ⟨o, ho, hd⟩ := X.C.cell n c hc
          exact ⟨o, hk₁ _ o (wI (ia.2 n c hc)) ho, hd⟩
        · obtain ⟨h₀, tk₀, g, rfl, _, bb⟩ := X.W
          exact ⟨h₁, tk₁, g, rfl, keep, bb⟩
      have hpl₁ : h₁.PlainList D ys := hpl.at fun o e => hk₁ _ o (wI hDI) e
      clear X hk₁ hit
      refine wpAny_assign_Name ?_
      refine wpAny_storeName_local rfl X₁.F.ns (fun h₂ hn₂ hs₂ => ?_) rfl
      have XF := X₁.F.set hn₂ hs₂
      have T : TF s wd mo i D H₁.objs.size { cls := .type "range_iterator", data := .fields #[rawInt (0 + ((i + 1 : Nat) : Int) * 1), rawInt ((wd.length : Int) - ((i + 1 : Nat) : Int)), rawInt 1] }
          (fun y => if y = Str.ofString "k" then some (.int (0 + (i : Nat) * 1) tv) else m y) cm { s₁ with heap := h₂, toks := tk₁ + 1 } := by
        refine ⟨⟨t, ?_⟩, ?_, ⟨tv, ?_⟩, ⟨u, hw⟩, ⟨ys, hpl₁.extBut hs₂.extBut (plain_ne_ns hpl₁ X₁.F.ns), hI⟩, hs₂.extBut _ _ ia.1 hit₁, ia, ⟨XF, X₁.C.sameBut hs₂ (Nat.le_refl _), ?_⟩⟩
        · exact (if_neg (by decide +kernel)).trans hmo
        · exact (if_neg (by decide +kernel)).trans hb
        · show (if _ then _ else _) = _
          rw [if_pos rfl, Int.mul_one, Int.zero_add]
        · obtain ⟨h₀, tk₀, g, e, _, bb⟩ := X₁.W
          have e' : g = s₁.gens ∧ s₁.drawn = s.drawn ∧ s₁.os = s.os := by
            have := Shared.mk.inj e
            exact ⟨this.2.1.symm, this.2.2.1, this.2.2.2.2⟩
          refine ⟨h₂, tk₁ + 1, s₁.gens, ?_, XF.keep, e'.1 ▸ bb⟩
          rw [← e'.2.1, ← e'.2.2]
      refine law_turn ok G T hlt hl F fun m' cm' s'' T' => ?_
      obtain ⟨t', e1⟩ := T'.more
      obtain ⟨u', e2⟩ := T'.word
      obtain ⟨ys', e3, e4⟩ := T'.list
      exact ⟨wd.length - (i + 1), by omega, m', cm', i + 1, ys', t', u', by omega, e1, T'.begins, e2, e3, e4, T'.it, T'.X⟩
    · have hin' : i = wd.length := by omega
      subst hin'
      refine W.done _ _ _ hit fun h₁ tk₁ hk₁ => ?_
      refine wpAny_execs_nil ?_
      refine wpAny_execs_cons ?_
      refine wpAny_Return_some ?_
      refine Constant_bool ?_
      refine h _ ?_
      obtain ⟨h₀, tk₀, g, rfl, ke, bb⟩ := X.W
      exact ⟨h₁, tk₁, g, rfl, fun b o e => hk₁ b o (fun hm => hlow e (List.mem_singleton.mp hm).symm) (ke b o e), bb⟩
  · refine ⟨m, cm, 0, ys, t, u, by omega, hmo, hb, hw, hpl.at fun o e => kr _ _ (kH _ o e), hI, ?_, ?_⟩
    · have hI := Heap.get?_push_size H₁ (o := r) (by rw [hr]; rfl)
      rw [hr] at hI ⊢
      show IsRangeIter _ _ _ _ _; simpa using hI
    · exact X.keeps ⟨_, _, rfl, fun b o e => kr _ _ (kH _ o e)⟩
end
end Mine

namespace Mine
section
variable {w : World} {A : Around} {E : Value → Shared → Prop} {s : Shared}
theorem law_call {a : Addr} {vs : List Value} {ns : List Int} {Q : Value → Shared → Prop} (FS : ∀ wd mo, dep wd = mo → 1 ≤ mo → Facts wd mo) (ok : Ok A 8) (G : Gd w s.heap) (hl : s.heap.IsList a vs.toArray) (hi : IntsAre vs ns) (hn : ns.length ≤ 63)
    (hQ : ∀ s', Aft s s' → Q (.bool true) s') : wpAny (model PG w) A (call (.ref 87) [.ref a]) Q E s := by
  refine law_call1 ok G hl hi hn fun A' m cm s₁ mo t u ok' hmo h3 hw X => ?_
  refine law_loops ok' G hmo h3 hw (by unfold wd0; rw [List.length_map, List.length_take]; omega) X fun cm' s₂ wd u' hw hd hlen X => ?_
  have F := FS wd mo hd h3.1
  refine law_begins ok' G hmo hw hlen F.beg X fun m' s₃ D ys hb hmo hpl hI X => ?_
  exact law_for ok' G hmo hb hw hlen hpl hI F X hQ
end
end Mine

namespace Mine
def dd (b : Bool) : Int := if b then 1 else -1
theorem dep_cons (b : Bool) (r : List Bool) : dep (b :: r) = dd b + dep r := by
  have := dep_append [b] r
  rw [List.singleton_append] at this
  rw [this]
  cases b <;> rfl
/-- the lowest that a word goes -/
def mn : List Bool → Int
  | [] => 0
  | b :: r => min 0 (dd b + mn r)
theorem mn_le : ∀ l, mn l ≤ 0
  | [] => Int.le_refl _
  | _ :: _ => Int.min_le_left _ _
theorem le_mn : ∀ (l : List Bool) (c : Int), c ≤ mn l ↔ ∀ i, i ≤ l.length → c ≤ dep (l.take i)
  | [], c => by
    constructor
    · intro h i _; rw [List.take_nil]; exact h
    · intro h; exact h 0 (Nat.le_refl _)
  | b :: r, c => by
    have ih := le_mn r (c - dd b)
    constructor
    · intro h i hi
      have h1 : c ≤ 0 ∧ c ≤ dd b + mn r := by
        unfold mn at h
        omega
      cases i with
      | zero => exact h1.1
      | succ i =>
        rw [List.take_succ_cons, dep_cons]
        have := ih.mp (by omega) i (by simpa using hi)
        omega
    · intro h
      have h0 := h 0 (Nat.zero_le _)
      have h1 : c - dd b ≤ mn r := ih.mpr fun i hi => by
        have := h (i + 1) (by simpa using hi)
        rw [List.take_succ_cons, dep_cons] at this
        omega
      have h0' : c ≤ 0 := h0
      unfold mn
      omega
theorem nb_iff (l : List Bool) : nb l = true ↔ ∀ i, i < l.length → 1 ≤ dep (l.take (1 + i)) := by
  unfold nb
  rw [List.isEmpty_iff, List.filter_eq_nil_iff]
  constructor
  · intro h i hi
    have := h i (List.mem_range.mpr hi)
    unfold nbp at this
    rw [decide_eq_true_iff] at this
    omega
  · intro h i hi
    have := h i (List.mem_range.mp hi)
    unfold nbp
    rw [decide_eq_true_iff]
    omega
theorem nb_cons (b : Bool) (r : List Bool) : nb (b :: r) = true ↔ 1 ≤ dd b + mn r := by
  rw [nb_iff]
  have h := le_mn r (1 - dd b)
  have e : (∀ i, i < (b :: r).length → 1 ≤ dep ((b :: r).take (1 + i))) ↔ ∀ i, i ≤ r.length → 1 - dd b ≤ dep (r.take i) := by
    constructor
    · intro h i hi
      have := h i (by simp; omega)
      rw [Nat.add_comm, List.take_succ_cons, dep_cons] at this
      omega
    · intro h i hi
      have := h i (by simp at hi; omega)
      rw [Nat.add_comm, List.take_succ_cons, dep_cons]
      omega
  rw [e, ← h]
  omega
theorem held_iff (l : List Bool) : held l = true ↔ dep l = 0 ∧ 0 ≤ mn l := by
  unfold held
  rw [Bool.and_eq_true, beq_iff_eq, List.isEmpty_iff, List.filter_eq_nil_iff, le_mn]
  refine and_congr_right fun h0 => ?_
  constructor
  · intro h i hi
    cases i with
    | zero => exact Int.le_refl _
    | succ i =>
      have := h i (List.mem_range.mpr (by omega))
      unfold hdp at this
      rw [decide_eq_true_iff, Nat.add_comm] at this
      omega
  · intro h i hi
    have := h (i + 1) (List.mem_range.mp hi)
    unfold hdp
    rw [decide_eq_true_iff, Nat.add_comm]
    omega
theorem chkGo_iff : ∀ (l : List Bool) (c : Int), 0 ≤ c → (chkGo c l = true ↔ 0 ≤ c + mn l ∧ c + dep l = 0)
  | [], c, hc => by
    show (c == 0) = true ↔ _
    rw [beq_iff_eq]
    show c = 0 ↔ 0 ≤ c + 0 ∧ c + 0 = 0
    omega
  | true :: r, c, hc => by
    show chkGo (c + 1) r = true ↔ _
    rw [chkGo_iff r (c + 1) (by omega), dep_cons]
    have := mn_le r
    show _ ↔ 0 ≤ c + min 0 (1 + mn r) ∧ c + (1 + dep r) = 0
    omega
  | false :: r, c, hc => by
    show (if c - 1 < 0 then false else chkGo (c - 1) r) = true ↔ _
    have := mn_le r
    rw [dep_cons]
    show _ ↔ 0 ≤ c + min 0 (-1 + mn r) ∧ c + (-1 + dep r) = 0
    split
    · rename_i h
      constructor
      · nofun
      · omega
    · rw [chkGo_iff r (c - 1) (by omega)]
      omega
theorem chk_iff (l : List Bool) : chk l = true ↔ dep l = 0 ∧ 0 ≤ mn l := by
  unfold chk
  rw [chkGo_iff l 0 (Int.le_refl _)]
  omega
theorem chk_held (l : List Bool) : chk l = held l := by
  rw [Bool.eq_iff_iff, chk_iff, held_iff]
/-- how many places have all that follows above them -/
def cs : List Bool → Nat
  | [] => 0
  | b :: r => (if nb (b :: r) then 1 else 0) + cs r
theorem cs_eq : ∀ l, (cs l : Int) = dep l - mn l
  | [] => rfl
  | b :: r => by
    have ih := cs_eq r
    have h := nb_cons b r
    have hm := mn_le r
    rw [dep_cons]
    show (((if nb (b :: r) then 1 else 0) + cs r : Nat) : Int) = dd b + dep r - min 0 (dd b + mn r)
    have hd : dd b = 1 ∨ dd b = -1 := by cases b <;> simp [dd]
    cases hn : nb (b :: r) with
    | true =>
      have := h.mp hn
      simp only [if_true]
      omega
    | false =>
      have : ¬ 1 ≤ dd b + mn r := fun h' => by rw [h.mpr h'] at hn; cases hn
      simp only [Bool.false_eq_true, if_false]
      omega
theorem stk_nb (l : List Bool) (j : Nat) : stk l j = nb (l.drop j) := by
  unfold stk nb
  rw [List.length_drop]
  congr 1
  refine List.filter_congr fun i _ => ?_
  unfold sp nbp
  have e : dep (l.take (j + 1 + i)) = dep (l.take j) + dep ((l.drop j).take (1 + i)) := by
    rw [← dep_append, Nat.add_assoc, List.take_add]
  rw [e, Bool.eq_iff_iff, decide_eq_true_iff, decide_eq_true_iff]
  omega
theorem filter_range_cons (p : Nat → Bool) (n : Nat) : (List.range (n + 1)).filter p = (if p 0 then [0] else []) ++ ((List.range n).filter fun j => p (j + 1)).map (· + 1) := by
  rw [List.range_succ_eq_map, List.filter_cons, List.filter_map]
  cases p 0 <;> simp [Function.comp_def]
theorem count_cs : ∀ (a b : List Bool), ((List.range a.length).filter fun j => nb ((a ++ b).drop j)).length + cs b = cs (a ++ b)
  | [], b => by simp
  | x :: a, b => by
    have ih := count_cs a b
    rw [List.length_cons, filter_range_cons]
    simp only [List.cons_append, List.drop_zero, List.drop_succ_cons, List.length_append, List.length_map]
    show _ = (if nb (x :: (a ++ b)) then 1 else 0) + cs (a ++ b)
    rw [← ih]
    cases nb (x :: (a ++ b)) <;> simp <;> omega
theorem stay_length (l : List Bool) : (stay l).length = cs l := by
  have h := count_cs l []
  rw [List.append_nil] at h
  rw [← h]
  unfold stay
  show _ = _ + 0
  rw [Nat.add_zero]
  congr 1
  exact List.filter_congr fun j _ => stk_nb l j
theorem mn_append : ∀ a b, mn (a ++ b) = min (mn a) (dep a + mn b)
  | [], b => by
    have := mn_le b
    show mn b = min 0 (0 + mn b)
    omega
  | x :: a, b => by
    have ih := mn_append a b
    rw [dep_cons]
    show min 0 (dd x + mn (a ++ b)) = min (min 0 (dd x + mn a)) (dd x + dep a + mn b)
    rw [ih]; omega
theorem nb_mn (l : List Bool) (h : nb l = true) : mn l = 0 := by
  cases l with
  | nil => rfl
  | cons b r =>
    have := (nb_cons b r).mp h
    show min 0 (dd b + mn r) = 0
    omega
theorem dep_rot (wd : List Bool) (k : Nat) : dep (rot wd k) = dep wd := by
  unfold rot
  rw [dep_append]
  have := dep_append (wd.take k) (wd.drop k)
  rw [List.take_append_drop] at this
  omega
/-- what begins in the ring begins in the word written twice -/
theorem nb_rot (wd : List Bool) (k : Nat) (hk : k < wd.length) (hd : 1 ≤ dep wd) : nb (rot wd k) = nb ((wd ++ wd).drop k) := by
  have e : (wd ++ wd).drop k = rot wd k ++ wd.drop k := by
    rw [List.drop_append_of_le_length (Nat.le_of_lt hk)]
    unfold rot
    rw [List.append_assoc, List.take_append_drop]
  rw [e, Bool.eq_iff_iff, nb_iff, nb_iff]
  have hl := rot_length wd k (Nat.le_of_lt hk)
  constructor
  · intro h i hi
    by_cases hlt : i < (rot wd k).length
    · rw [List.take_append_of_le_length (by omega)]
      exact h i hlt
    · rw [List.length_append, List.length_drop, hl] at hi
      rw [List.take_append, dep_append, List.take_of_length_le (by omega), dep_rot]
      have e2 : (wd.drop k).take (1 + i - (rot wd k).length) = (rot wd k).take (1 + (i - wd.length)) := by
        unfold rot
        rw [List.take_append_of_le_length (by rw [List.length_drop]; omega)]
        congr 1
        have : (wd.drop k ++ wd.take k).length = wd.length := hl
        omega
      rw [e2]
      have := h (i - wd.length) (by omega)
      omega
  · intro h i hi
    have := h i (by rw [List.length_append]; omega)
    rwa [List.take_append_of_le_length (by omega)] at this
theorem beg_length (wd : List Bool) (hd : 1 ≤ dep wd) : ((beg wd).length : Int) = dep wd := by
  have h := count_cs wd wd
  have e : beg wd = (List.range wd.length).filter fun j => nb ((wd ++ wd).drop j) := by
    unfold beg
    exact List.filter_congr fun k hk => nb_rot wd k (List.mem_range.mp hk) hd
  rw [← e] at h
  have h1 := cs_eq wd
  have h2 := cs_eq (wd ++ wd)
  rw [dep_append, mn_append] at h2
  omega
theorem stay_head (R : List Bool) (hR : 1 ≤ dep R) (h : nb R = true) : (stay R)[0]? = some 0 := by
  cases R with
  | nil => exact absurd hR (by decide)
  | cons b r =>
    unfold stay
    rw [List.length_cons, filter_range_cons, stk_nb, List.drop_zero, h]
    rfl
def rst : List Bool → List Bool
  | [] => []
  | b :: r => if nb (b :: r) then rst r else b :: rst r
theorem rest_rst : ∀ l, rest l = rst l
  | [] => rfl
  | b :: r => by
    have ih := rest_rst r
    have e : ((List.range r.length).filter fun j => !stk (b :: r) (j + 1)).map (fun j => (b :: r).getD (j + 1) true) = rest r := by
      unfold rest
      rw [show (fun j => (b :: r).getD (j + 1) true) = fun j => r.getD j true from funext fun j => by simp]
      congr 1
      refine List.filter_congr fun j _ => ?_
      rw [stk_nb, stk_nb, List.drop_succ_cons]
    show ((List.range (r.length + 1)).filter fun j => !stk (b :: r) j).map (fun j => (b :: r).getD j true) = if nb (b :: r) then rst r else b :: rst r
    rw [filter_range_cons, List.map_append, List.map_map, show ((fun j => (b :: r).getD j true) ∘ fun x => x + 1) = fun j => (b :: r).getD (j + 1) true from rfl, e, ih, stk_nb, List.drop_zero]
    cases nb (b :: r) <;> simp
theorem rst_mn : ∀ l, mn (rst l) = mn l ∧ dep (rst l) = mn l
  | [] => ⟨rfl, rfl⟩
  | b :: r => by
    obtain ⟨h1, h2⟩ := rst_mn r
    have h := nb_cons b r
    have hm := mn_le r
    have hd : dd b = 1 ∨ dd b = -1 := by cases b <;> simp [dd]
    show mn (if nb (b :: r) then rst r else b :: rst r) = min 0 (dd b + mn r) ∧ dep (if nb (b :: r) then rst r else b :: rst r) = min 0 (dd b + mn r)
    cases hn : nb (b :: r) with
    | true =>
      have := h.mp hn
      simp only [if_true]
      omega
    | false =>
      have : ¬ 1 ≤ dd b + mn r := fun h' => by rw [h.mpr h'] at hn; cases hn
      simp only [Bool.false_eq_true, if_false]
      rw [dep_cons]
      show min 0 (dd b + mn (rst r)) = _ ∧ _
      omega
theorem rest_chk (R : List Bool) (h : nb R = true) : chk (rest R) = true := by
  rw [chk_iff, rest_rst]
  have h1 := rst_mn R
  have h2 := nb_mn R h
  omega
theorem dep_not (l : List Bool) : dep (l.map fun b => !b) = -dep l := by
  induction l with
  | nil => rfl
  | cons b r ih =>
    rw [List.map_cons, dep_cons, dep_cons, ih]
    cases b <;> simp [dd] <;> omega
theorem dep_reverse (l : List Bool) : dep l.reverse = dep l := by
  unfold dep; rw [List.count_reverse, List.count_reverse]
theorem flip_chk (l : List Bool) (h : chk l = true) : chk (flip l) = true := by
  rw [chk_iff] at h ⊢
  obtain ⟨h0, h1⟩ := h
  rw [le_mn] at h1
  refine ⟨by unfold flip; rw [dep_not, dep_reverse]; omega, ?_⟩
  rw [le_mn]
  intro i hi
  have hi' : i ≤ l.length := by
    unfold flip at hi
    rwa [List.length_map, List.length_reverse] at hi
  have e : (flip l).take i = ((l.drop (l.length - i)).reverse).map fun b => !b := by
    unfold flip
    rw [← List.map_take, List.take_reverse]
  rw [e, dep_not, dep_reverse]
  have h2 := h1 (l.length - i) (by omega)
  have h3 := dep_append (l.take (l.length - i)) (l.drop (l.length - i))
  rw [List.take_append_drop] at h3
  omega
theorem facts (wd : List Bool) (mo : Int) (hd : dep wd = mo) (h1 : 1 ≤ mo) : Facts wd mo where
  beg := by rw [beg_length wd (by omega), hd]
  c0 := fun k _ => by
    cases h : chk (rot wd k) with
    | false => rfl
    | true =>
      have := ((chk_iff _).mp h).1
      rw [dep_rot] at this
      omega
  c1 := fun k _ => chk_held _
  c2 := fun k _ hm => by
    have hr := dep_rot wd k
    cases hR : rot wd k with
    | nil => rw [hR] at hr; rw [← hr] at hd; rw [← hd] at h1; exact absurd h1 (by decide)
    | cons b r =>
      rw [hR, dep_cons] at hr
      rw [Bool.eq_iff_iff, nb_cons, Bool.and_eq_true, List.drop_succ_cons, List.drop_zero, chk_iff]
      have := mn_le r
      cases b with
      | true =>
        have e : dd true = 1 := rfl
        rw [e] at hr ⊢
        constructor
        · omega
        · intro h; exact ⟨rfl, by omega, by omega⟩
      | false =>
        have e : dd false = -1 := rfl
        rw [e]
        constructor
        · rintro ⟨h, _⟩; cases h
        · omega
  s1 := fun k _ h => by
    rw [stay_length, cs_eq, nb_mn _ h, dep_rot, hd]; omega
  s2 := fun k _ h => stay_head _ (by rw [dep_rot]; omega) h
  s3 := fun k _ h => rest_chk _ h
  s4 := fun k _ h => by rw [← chk_held]; exact rest_chk _ h
  s5 := fun k _ h => flip_chk _ (rest_chk _ h)
end Mine

namespace Mine
set_option maxHeartbeats 8000000 in
theorem fin : PySem.Challenge.rw_zr0001_01.Holds := by
  refine hd ?_
  intro w s₀ s₁ mg mb G Y fa o pm cd doc dV kV ho hd hcd hD hmg hg args vals as hpre hlay hrd hwl hlo
  have KX := kIn_of Y
  refine Ground.open G ?_
  intro T B D TE TW
  have hfa : fa = 87 := by
    have e := mg_of (n := Str.ofString "law") (v := .ref 87) KX T.g rfl
    have e2 : mg (Str.ofString "law") = some (.ref fa) := hmg
    rw [e] at e2
    exact (Value.ref.inj (Option.some.inj e2)).symm
  have G0 : Gd w s₁.heap := ⟨KX, ⟨mg, T.g⟩, ⟨mb, T.b, T.builtins⟩, T.nolimit⟩
  clear hd ho hcd hD B D TE TW G Y hmg T
  subst hfa
  wrow_args hpre hlay hrd hwl hlo
  rename_i ns _ _ _ _ _ _ _ a vs _ hl _ _ _ hi _ hc _
  have ok : Ok callerA 8 := ⟨rfl, by decide, by decide⟩
  have hn : ns.length ≤ 63 := by omega
  refine law_call facts ok G0 hl hi hn fun s' K => ?_
  obtain ⟨h', tk, g', rfl, k, b⟩ := K
  refine ⟨.inl ⟨_, _, [], rfl, fun _ => rfl, ReadsW.bool true, ?_, fun _ => ⟨List.nodup_nil, fun _ hm => (nomatch hm)⟩⟩, .of_keep k, rfl, b (by rw [hg]; exact AllBare.empty)⟩
  first | rfl | wrow_post
end Mine

theorem PySem.Challenge.cw_zr0001_01_holds : PySem.Challenge.rw_zr0001_01.Holds := by
  exact Mine.fin
