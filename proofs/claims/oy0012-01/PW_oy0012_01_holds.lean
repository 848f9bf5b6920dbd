import PyProof.Rows.All
import Wide.All
import OpenK.AllK
import Wide.FinOn
import Lean
import PySem.Challenge.RW_oy0012_01
set_option Elab.async false
set_option maxRecDepth 100000
set_option maxHeartbeats 8000000
-- text MBase
section
open PySem PySem.W PyProof.Rows PySem.Calls
set_option Elab.async false
namespace Mine

/-- never an exception -/
noncomputable abbrev NE : Value → Shared → Prop := fun _ _ => False
/-- objects that stay as they are -/
noncomputable abbrev Fz := Addr → Obj → Prop
/-- objects that this frame may change -/
noncomputable abbrev Led := List (Addr × Obj)
noncomputable def Fz.le (f g : Fz) : Prop := ∀ a o, f a o → g a o
theorem Fz.le_refl (f : Fz) : Fz.le f f := fun _ _ h => h
theorem Fz.le_trans {f g k : Fz} (h1 : Fz.le f g) (h2 : Fz.le g k) : Fz.le f k := fun a o h => h2 a o (h1 a o h)
noncomputable def Fz.add (f : Fz) (a : Addr) (o : Obj) : Fz := fun b p => f b p ∨ (b = a ∧ p = o)
theorem Fz.le_add {f : Fz} {a : Addr} {o : Obj} : Fz.le f (f.add a o) := fun _ _ h => .inl h
theorem Fz.add_self {f : Fz} {a : Addr} {o : Obj} : f.add a o a o := .inr ⟨rfl, rfl⟩

noncomputable def upd (m : Str → Option Value) (x : Str) (v : Value) : Str → Option Value := fun y => if y = x then some v else m y
theorem upd_same {m : Str → Option Value} {x : Str} {v : Value} : upd m x v x = some v := by simp [upd]
theorem upd_ne {m : Str → Option Value} {x y : Str} {v : Value} {r : Option Value} (h : y ≠ x) (e : m y = r) : upd m x v y = r := by simp [upd, h, e]

/-- where a frame began: the state, and what was to stay -/
structure Bs where
  s0 : Shared
  f0 : Fz
  /-- the frames around: an exception may ready them (their slots alone turn) -/
  fs : List Addr

/-- what was there where the frame began is there -/
structure Kp (B : Bs) (h : Heap) : Prop where
  ex : ∀ b o, B.s0.heap.get? b = some o → b ∉ B.fs → h.get? b = some o
  up : ∀ b o, B.s0.heap.get? b = some o → b ∈ B.fs → ∃ sl, h.get? b = some { o with slots := sl }
  fsOk : ∀ b ∈ B.fs, ∃ o, B.s0.heap.get? b = some o ∧ ∀ vs, o.data ≠ .fields vs
  f0fs : ∀ a o, B.f0 a o → a ∉ B.fs
theorem Kp.any {B : Bs} {h : Heap} (K : Kp B h) {b : Addr} {o : Obj} (e : B.s0.heap.get? b = some o) : ∃ o', h.get? b = some o' := by
  by_cases hb : b ∈ B.fs
  · obtain ⟨sl, h1⟩ := K.up b o e hb; exact ⟨_, h1⟩
  · exact ⟨_, K.ex b o e hb⟩
theorem Kp.but {B : Bs} {h h' : Heap} (K : Kp B h) {wr : Addr → Prop} (hk : ∀ b o, ¬ wr b → h.get? b = some o → h'.get? b = some o) (hw : ∀ b, wr b → B.s0.heap.get? b = none) : Kp B h' where
  ex := fun b o e hb => hk b o (fun x => by rw [hw b x] at e; cases e) (K.ex b o e hb)
  up := fun b o e hb => let ⟨sl, h1⟩ := K.up b o e hb; ⟨sl, hk b _ (fun x => by rw [hw b x] at e; cases e) h1⟩
  fsOk := K.fsOk
  f0fs := K.f0fs
theorem Kp.none_fs {B : Bs} {h : Heap} (K : Kp B h) {b : Addr} (e : B.s0.heap.get? b = none) : b ∉ B.fs := fun hb => by
  obtain ⟨o, ho, _⟩ := K.fsOk b hb; rw [e] at ho; cases ho

/-- a state of one frame: its names m, its own objects mu, what stays fz -/
structure Fs (B : Bs) (L : Addr) (m : Str → Option Value) (mu : Led) (fz : Fz) (s : Shared) : Prop where
  gens : s.gens = B.s0.gens
  drawn : s.drawn = B.s0.drawn
  os : s.os = B.s0.os
  ns : s.heap.Ns L m
  keep : Kp B s.heap
  newL : B.s0.heap.get? L = none
  le : B.f0.le fz
  fzs : ∀ a o, fz a o → s.heap.get? a = some o ∧ a ≠ L ∧ (B.f0 a o ∨ B.s0.heap.get? a = none)
  mus : ∀ p ∈ mu, s.heap.get? p.1 = some p.2 ∧ p.1 ≠ L ∧ (∀ o, ¬ fz p.1 o) ∧ B.s0.heap.get? p.1 = none
  nd : (mu.map (·.1)).Nodup

section
variable {B : Bs} {L : Addr} {m m' : Str → Option Value} {mu mu' : Led} {fz fz' : Fz} {s : Shared}

theorem Fs.lt (S : Fs B L m mu fz s) : L < s.heap.objs.size := S.ns.lt
theorem Fs.get (S : Fs B L m mu fz s) {a : Addr} {o : Obj} (h : fz a o) : s.heap.get? a = some o := (S.fzs a o h).1
theorem Fs.own (S : Fs B L m mu fz s) {a : Addr} {o : Obj} (h : (a, o) ∈ mu) : s.heap.get? a = some o := (S.mus _ h).1
theorem Fs.fresh (S : Fs B L m mu fz s) : B.s0.heap.get? s.heap.objs.size = none := by
  cases e : B.s0.heap.get? s.heap.objs.size with
  | none => rfl
  | some o => obtain ⟨o', h'⟩ := S.keep.any e; exact absurd (Heap.lt_size h') (Nat.lt_irrefl _)

/-- only toks and new objects -/
theorem Fs.grow (S : Fs B L m mu fz s) {h' : Heap} {tk : Nat} (hk : ∀ b o, s.heap.get? b = some o → h'.get? b = some o) :
    Fs B L m mu fz { s with heap := h', toks := tk } where
  gens := S.gens
  drawn := S.drawn
  os := S.os
  ns := S.ns.keeps hk
  keep := S.keep.but (wr := fun _ => False) (fun b o _ e => hk b o e) (fun _ x => x.elim)
  newL := S.newL
  le := S.le
  fzs := fun a o h => ⟨hk _ _ (S.fzs a o h).1, (S.fzs a o h).2⟩
  mus := fun p hp => ⟨hk _ _ (S.mus p hp).1, (S.mus p hp).2⟩
  nd := S.nd
theorem Fs.toks (S : Fs B L m mu fz s) {tk : Nat} : Fs B L m mu fz { s with toks := tk } := S.grow (h' := s.heap) fun _ _ e => e

theorem Fs.set (S : Fs B L m mu fz s) {h' : Heap} {tk : Nat} (hn : h'.Ns L m') (hs : ∀ b o, b ≠ L → s.heap.get? b = some o → h'.get? b = some o) :
    Fs B L m' mu fz { s with heap := h', toks := tk } where
  gens := S.gens
  drawn := S.drawn
  os := S.os
  ns := hn
  keep := S.keep.but (wr := fun b => b = L) (fun b o hb e => hs b o hb e) (fun b hb => by rw [hb]; exact S.newL)
  newL := S.newL
  le := S.le
  fzs := fun a o h => ⟨hs _ _ (S.fzs a o h).2.1 (S.fzs a o h).1, (S.fzs a o h).2⟩
  mus := fun p hp => ⟨hs _ _ (S.mus p hp).2.1 (S.mus p hp).1, (S.mus p hp).2⟩
  nd := S.nd

/-- one own object is changed -/
theorem Fs.put {pre post : Led} {a : Addr} {o o' : Obj} (S : Fs B L m (pre ++ (a, o) :: post) fz s) {h' : Heap} {tk : Nat} (ho : h'.get? a = some o')
    (hs : ∀ b q, b ≠ a → s.heap.get? b = some q → h'.get? b = some q) : Fs B L m (pre ++ (a, o') :: post) fz { s with heap := h', toks := tk } := by
  have ha := S.mus (a, o) (by simp)
  have hnd := S.nd
  simp only [List.map_append, List.map_cons, List.nodup_append, List.nodup_cons] at hnd
  refine ⟨S.gens, S.drawn, S.os, ?_, ?_, S.newL, S.le, ?_, ?_, ?_⟩
  · obtain ⟨x, es, ep, hx, r⟩ := S.ns
    exact ⟨x, es, ep, hs _ _ (Ne.symm ha.2.1) hx, r⟩
  · exact S.keep.but (wr := fun b => b = a) (fun b o hb e => hs b o hb e) (fun b hb => by rw [hb]; exact ha.2.2.2)
  · intro b q hb
    refine ⟨hs _ _ ?_ (S.fzs b q hb).1, (S.fzs b q hb).2⟩
    rintro rfl
    exact ha.2.2.1 _ hb
  · intro p hp
    rcases List.mem_append.mp hp with hp | hp
    · have hm := S.mus p (List.mem_append.mpr (.inl hp))
      refine ⟨hs _ _ ?_ hm.1, hm.2⟩
      exact hnd.2.2 _ (List.mem_map.mpr ⟨p, hp, rfl⟩) _ (by simp)
    · rcases List.mem_cons.mp hp with rfl | hp
      · exact ⟨ho, ha.2⟩
      · have hm := S.mus p (List.mem_append.mpr (.inr (List.mem_cons_of_mem _ hp)))
        refine ⟨hs _ _ ?_ hm.1, hm.2⟩
        intro e
        exact hnd.2.1.1 (List.mem_map.mpr ⟨p, hp, e⟩)
  · simpa using S.nd

/-- a new own object -/
theorem Fs.alloc (S : Fs B L m mu fz s) (o : Obj) {tk : Nat} (hf : o.isFreed = false := by rfl) : Fs B L m ((s.heap.objs.size, o) :: mu) fz { s with heap := s.heap.push o, toks := tk } := by
  have K := S.grow (h' := s.heap.push o) (tk := tk) fun _ _ e => Heap.get?_push_of_some _ e
  refine ⟨K.gens, K.drawn, K.os, K.ns, K.keep, K.newL, K.le, K.fzs, ?_, ?_⟩
  · intro p hp
    rcases List.mem_cons.mp hp with rfl | hp
    · refine ⟨Heap.get?_push_size _ hf, Nat.ne_of_gt S.lt, fun q hq => ?_, S.fresh⟩
      exact absurd (Heap.lt_size (S.fzs _ _ hq).1) (Nat.lt_irrefl _)
    · exact K.mus p hp
  · rw [List.map_cons, List.nodup_cons]
    refine ⟨fun hm => ?_, S.nd⟩
    obtain ⟨p, hp, e⟩ := List.mem_map.mp hm
    have := Heap.lt_size (S.mus p hp).1
    rw [e] at this
    exact absurd this (Nat.lt_irrefl _)
/-- an own object that is changed no more -/
theorem Fs.freeze {a : Addr} {o : Obj} (S : Fs B L m ((a, o) :: mu) fz s) : Fs B L m mu (fz.add a o) s := by
  have ha := S.mus (a, o) (by simp)
  have hnd := S.nd
  simp only [List.map_cons, List.nodup_cons] at hnd
  refine ⟨S.gens, S.drawn, S.os, S.ns, S.keep, S.newL, Fz.le_trans S.le Fz.le_add, ?_, ?_, hnd.2⟩
  · rintro b q (hb | ⟨rfl, rfl⟩)
    · exact S.fzs b q hb
    · exact ⟨ha.1, ha.2.1, .inr ha.2.2.2⟩
  · intro p hp
    have hm := S.mus p (List.mem_cons_of_mem _ hp)
    refine ⟨hm.1, hm.2.1, ?_, hm.2.2.2⟩
    rintro q (hq | ⟨e, rfl⟩)
    · exact hm.2.2.1 _ hq
    · exact hnd.1 (List.mem_map.mpr ⟨p, hp, e⟩)
theorem Fs.sub (S : Fs B L m mu fz s) (h : mu'.Sublist mu) : Fs B L m mu' fz s :=
  ⟨S.gens, S.drawn, S.os, S.ns, S.keep, S.newL, S.le, S.fzs, fun q hq => S.mus q (h.subset hq), S.nd.sublist (h.map _)⟩
theorem Fs.drop {p : Addr × Obj} (S : Fs B L m (p :: mu) fz s) : Fs B L m mu fz s := S.sub (List.sublist_cons_self ..)
theorem Fs.allocF (S : Fs B L m mu fz s) (o : Obj) {tk : Nat} (hf : o.isFreed = false := by rfl) : Fs B L m mu (fz.add s.heap.objs.size o) { s with heap := s.heap.push o, toks := tk } := (S.alloc o hf).freeze
theorem Fs.perm (S : Fs B L m mu fz s) (h : mu.Perm mu') : Fs B L m mu' fz s :=
  ⟨S.gens, S.drawn, S.os, S.ns, S.keep, S.newL, S.le, S.fzs, fun p hp => S.mus p (h.mem_iff.mpr hp), (h.map _).nodup_iff.mp S.nd⟩
theorem Fs.swap {p q : Addr × Obj} (S : Fs B L m (p :: q :: mu) fz s) : Fs B L m (q :: p :: mu) fz s := S.perm (.swap ..)
theorem Fs.names (S : Fs B L m mu fz s) (h : ∀ x, m x = m' x) : Fs B L m' mu fz s := by
  have : m = m' := funext h
  subst this; exact S
/-- behind a call: what the callee's frame left -/
theorem Fs.back {L' : Addr} {m' : Str → Option Value} {mu' : Led} {fz' : Fz} {s' : Shared} (S : Fs B L m mu fz s) (C : Fs ⟨s, fz, L :: B.fs⟩ L' m' mu' fz' s') : Fs B L m mu fz' s' where
  gens := C.gens.trans S.gens
  drawn := C.drawn.trans S.drawn
  os := C.os.trans S.os
  ns := by
    obtain ⟨x, es, ep, hx, hd, r⟩ := S.ns
    obtain ⟨sl, h1⟩ := C.keep.up L x hx List.mem_cons_self
    exact ⟨_, es, ep, h1, hd, r⟩
  keep := by
    refine ⟨fun b o e hb => ?_, fun b o e hb => ?_, S.keep.fsOk, S.keep.f0fs⟩
    · refine C.keep.ex b o (S.keep.ex b o e hb) fun hm => ?_
      rcases List.mem_cons.mp hm with rfl | hm
      · rw [S.newL] at e; cases e
      · exact hb hm
    · obtain ⟨sl, h1⟩ := S.keep.up b o e hb
      obtain ⟨sl', h2⟩ := C.keep.up b _ h1 (List.mem_cons_of_mem _ hb)
      exact ⟨sl', h2⟩
  newL := S.newL
  le := Fz.le_trans S.le C.le
  fzs := fun a o h => by
    have := C.fzs a o h
    refine ⟨this.1, ?_, ?_⟩
    · rcases this.2.2 with q | q
      · exact (S.fzs a o q).2.1
      · rintro rfl
        obtain ⟨x, _, _, hx, _⟩ := S.ns
        have q' : s.heap.get? a = none := q
        rw [hx] at q'; cases q'
    · rcases this.2.2 with q | q
      · exact (S.fzs a o q).2.2
      · refine .inr ?_
        cases e : B.s0.heap.get? a with
        | none => rfl
        | some x =>
          have q' : s.heap.get? a = none := q
          obtain ⟨o', h'⟩ := S.keep.any e; rw [h'] at q'; cases q'
  mus := fun p hp => by
    have hm := S.mus p hp
    refine ⟨C.keep.ex _ _ hm.1 (fun x => by rcases List.mem_cons.mp x with x | x
                                            · exact hm.2.1 x
                                            · exact S.keep.none_fs hm.2.2.2 x), hm.2.1, fun o hf => ?_, hm.2.2.2⟩
    rcases (C.fzs _ _ hf).2.2 with q | q
    · exact hm.2.2.1 _ q
    · have q' : s.heap.get? p.1 = none := q
      rw [hm.1] at q'; cases q'
  nd := S.nd
end
end Mine
end
-- text MTop
section
open PySem PySem.W PyProof.Rows PySem.Calls
set_option Elab.async false
namespace Mine

/-- the k-th statement of the text -/
noncomputable def topS (k : Nat) : Stmt := (PySem.Challenge.pw_oy0012_01.main.body)[k]?.getD (.Pass ⟨0, 0, 0, 0⟩)
noncomputable def sName : Stmt → Str | .FunctionDef n _ _ _ _ _ _ _ _ _ => n | _ => Str.empty
noncomputable def sParams : Stmt → Arguments | .FunctionDef _ a _ _ _ _ _ _ _ _ => a | _ => ⟨[], [], none, [], [], none, []⟩
noncomputable def sBody : Stmt → List Stmt | .FunctionDef _ _ b _ _ _ _ _ _ _ => b | _ => []
noncomputable def sScope : Stmt → Scope | .FunctionDef _ _ _ _ _ _ s _ _ _ => s | _ => { kind := .function, names := [], isGenerator := false, isCoroutine := false, more := [] }

noncomputable def ONs (o : Obj) (m : Str → Option Value) : Prop := ∃ es ep, o.data = .dict es ep ∧ StrKeys es ∧ ∀ n, nsFind es n = m n
theorem ONs.ns {h : Heap} {a : Addr} {o : Obj} {m : Str → Option Value} (e : h.get? a = some o) (x : ONs o m) : h.Ns a m := let ⟨es, ep, r⟩ := x; ⟨o, es, ep, e, r⟩
/-- the code object of a def -/
noncomputable def CodeAt (f : Fz) (c : Addr) (q : Str) : Prop := ∃ o vs t, f c o ∧ o.data = .fields vs ∧ vs[1]? = some (.str q t)
/-- the k-th statement's def lies at a, its code at c -/
noncomputable def FnAt (f : Fz) (a c k : Nat) : Prop := ∃ o pm doc, f a o ∧ o.data = .func (docDef (sName (topS k)) (sParams (topS k)) (sBody (topS k)) (sScope (topS k)) pm (.ref c) doc) ∧ CodeAt f c (sName (topS k))

/-- a def with defaults -/
noncomputable def fdOf (k : Nat) (pm cd doc dV kV : Value) : FuncData := { docDef (sName (topS k)) (sParams (topS k)) (sBody (topS k)) (sScope (topS k)) pm cd doc with defaults := dV, kwdefaults := kV }
noncomputable def FnAtD (f : Fz) (a c k : Nat) (dV kV : Value) : Prop := ∃ o pm doc, f a o ∧ o.data = .func (fdOf k pm (.ref c) doc dV kV) ∧ CodeAt f c (sName (topS k))
/-- the signs of the figures to the base 64 -/
noncomputable def B64 : List UInt8 := ((List.range 26).map (· + 65) ++ (List.range 26).map (· + 97) ++ (List.range 10).map (· + 48) ++ [43, 47]).map Nat.toUInt8
/-- the table that puts - and _ for + and / -/
noncomputable def UT : List UInt8 := (List.range 256).map fun n => if n = 43 then 45 else if n = 47 then 95 else n.toUInt8
/-- the text's own names, as the top leaves them -/
noncomputable def gl : List (Str × Value) := [
  (Str.ofString "unorderable_list_difference", .ref 28), (Str.ofString "_buffer", .ref 35), (Str.ofString "_truth", .ref 42), (Str.ofString "b2a_base64", .ref 50), (Str.ofString "b64encode", .ref 58),
  (Str.ofString "urlsafe_b64encode", .ref 65), (Str.ofString "_byteswap", .ref 72), (Str.ofString "_law_written", .ref 77), (Str.ofString "_law_signs", .ref 82), (Str.ofString "_law_reached", .ref 89),
  (Str.ofString "_law_rows", .ref 94), (Str.ofString "_law_pairs", .ref 99), (Str.ofString "_law_told", .ref 106), (Str.ofString "_law_further", .ref 113), (Str.ofString "_law_are", .ref 118), (Str.ofString "_law_walk", .ref 123)]
/-- the built-in names that are asked -/
noncomputable def bt : List (Str × Value) := [(Str.ofString "type", .type "type"), (Str.ofString "bytes", .type "bytes"), (Str.ofString "bytearray", .type "bytearray"), (Str.ofString "bool", .type "bool"), (Str.ofString "int", .type "int"), (Str.ofString "float", .type "float"), (Str.ofString "complex", .type "complex"), (Str.ofString "str", .type "str"), (Str.ofString "list", .type "list"), (Str.ofString "tuple", .type "tuple"), (Str.ofString "dict", .type "dict"), (Str.ofString "set", .type "set"), (Str.ofString "frozenset", .type "frozenset"), (Str.ofString "range", .type "range"), (Str.ofString "zip", .type "zip"), (Str.ofString "ValueError", .type "ValueError"), (Str.ofString "len", .builtin "len"), (Str.ofString "min", .builtin "min"), (Str.ofString "max", .builtin "max"), (Str.ofString "sum", .builtin "sum"), (Str.ofString "sorted", .builtin "sorted")]
example : (bt.all fun p => decide (bootBuiltins p.1 = some p.2)) = true := by decide +kernel

structure Tp (mg mb : Str → Option Value) (f : Fz) : Prop where
  g : ∃ o, f mainGlobals o ∧ ONs o mg
  b : ∃ o, f builtinsNs o ∧ ONs o mb
  nl : ∃ o mc, f cStatics o ∧ ONs o mc ∧ mc (Str.ofString "sys.recursionlimit") = none
  hit : ∀ x v, gl.lookup x = some v → mg x = some v
  miss : ∀ x v, bt.lookup x = some v → mg x = none ∧ mb x = some v
  f28 : FnAt f 28 27 2
  f35 : FnAt f 35 34 4
  f42 : FnAt f 42 41 5
  f65 : FnAt f 65 64 11
  f72 : FnAt f 72 71 13
  f77 : FnAt f 77 76 15
  f82 : FnAt f 82 81 16
  f89 : FnAt f 89 88 17
  f94 : FnAt f 94 93 18
  f99 : FnAt f 99 98 19
  f106 : FnAt f 106 105 20
  f113 : FnAt f 113 112 21
  f118 : FnAt f 118 117 22
  f123 : FnAt f 123 122 23
  f50 : FnAtD f 50 49 7 .none (.ref 43)
  f58 : FnAtD f 58 57 9 (.ref 51) .none
  d51 : f 51 { cls := .type "tuple", data := .seq #[.none] }
  b64 : ∃ t, mg (Str.ofString "_B64") = some (.bytes B64.toArray t)
  utr : ∃ t, mg (Str.ofString "_urlsafe_encode_translation") = some (.bytes UT.toArray t)

example : sName (topS 2) = Str.ofString "unorderable_list_difference" := rfl
example : sName (topS 4) = Str.ofString "_buffer" := rfl
example : sName (topS 5) = Str.ofString "_truth" := rfl
example : sName (topS 7) = Str.ofString "b2a_base64" := rfl
example : sName (topS 9) = Str.ofString "b64encode" := rfl
example : sName (topS 11) = Str.ofString "urlsafe_b64encode" := rfl
example : sName (topS 13) = Str.ofString "_byteswap" := rfl
example : sName (topS 15) = Str.ofString "_law_written" := rfl
example : sName (topS 23) = Str.ofString "_law_walk" := rfl
example : sName (topS 24) = Str.ofString "law" := rfl
end Mine
end
-- text MRules
section
open PySem PySem.W PyProof.Rows PySem.Calls
set_option Elab.async false
namespace Mine

section
variable {M : Model} {A : Around} {E : Value → Shared → Prop} {env : Env} {B : Bs} {L : Addr} {m : Str → Option Value} {mu : Led} {fz : Fz}

-- statements
theorem x_nil {Q : Flow → Shared → Prop} (h : ∀ s, Fs B L m mu fz s → Q .next s) : ∀ s, Fs B L m mu fz s → wpAny M A (execs [] env) Q E s :=
  fun s S => wpAny_execs_nil (h s S)
theorem x_cons {st rest} {Q : Flow → Shared → Prop}
    (h : ∀ s, Fs B L m mu fz s → wpAny M A (exec st env) (fun f s' => match f with | .next => wpAny M A (execs rest env) Q E s' | f => Q f s') E s) :
    ∀ s, Fs B L m mu fz s → wpAny M A (execs (st :: rest) env) Q E s := fun s S => wpAny_execs_cons (h s S)
theorem x_assign {x pos' value pos} {Q : Flow → Shared → Prop}
    (h : ∀ s, Fs B L m mu fz s → wpAny M A (eval value env) (fun v s₁ => wpAny M A (storeName env x v) (fun _ => Q .next) E s₁) E s)
    (hs : swapsWith value (some (.Name x pos')) pos.line env = pure false := by rfl) :
    ∀ s, Fs B L m mu fz s → wpAny M A (exec (.Assign [.Name x pos'] value pos) env) Q E s := fun s S => wpAny_Assign_Name (h s S) hs
theorem x_assignSub {o i pos' value pos} {Q : Flow → Shared → Prop}
    (h : ∀ s, Fs B L m mu fz s → wpAny M A (eval value env) (fun v s₁ => wpAny M A (eval o env) (fun ov s₂ => wpAny M A (eval i env) (fun iv s₃ =>
      wpAny M A (setItem ov iv v) (fun _ => Q .next) E s₃) E s₂) E s₁) E s)
    (hs : swapsWith value (some (.Subscript o i pos')) pos.line env = pure false := by rfl) :
    ∀ s, Fs B L m mu fz s → wpAny M A (exec (.Assign [.Subscript o i pos'] value pos) env) Q E s := fun s S => wpAny_Assign_Subscript (h s S) hs
theorem x_augSub {o i value : Expr} {tpos pos : Pos} {op : Operator} {Q : Flow → Shared → Prop}
    (h : ∀ s, Fs B L m mu fz s → wpAny M A (eval o env) (fun ov s₁ => wpAny M A (eval i env) (fun iv s₂ => wpAny M A (getItem ov iv) (fun old s₃ =>
          wpAny M A (eval value env) (fun v s₄ => wpAny M A (inplaceOp op old v) (fun new s₅ =>
            wpAny M A (setItem ov iv new) (fun _ => Q .next) E s₅) E s₄) E s₃) E s₂) E s₁) E s)
    (hi : ∀ ov iv new, augStore i ov iv new = (do holding [new, ov, iv] (setItem ov iv new); release [new, ov, iv] []; pure .next) := by intros; rfl) :
    ∀ s, Fs B L m mu fz s → wpAny M A (exec (.AugAssign (.Subscript o i tpos) op value pos) env) Q E s := fun s S => wpAny_AugAssign_SubscriptAny (h s S) hi
theorem x_if {test body orelse pos} {Q : Flow → Shared → Prop}
    (h : ∀ s, Fs B L m mu fz s → wpAny M A (isTrue test env (eval test env))
      (fun b s₂ => if b then wpAny M A (execs body env) Q E s₂ else wpAny M A (execs orelse env) Q E s₂) E s) :
    ∀ s, Fs B L m mu fz s → wpAny M A (exec (.If test body orelse pos) env) Q E s := fun s S => wpAny_If (h s S)
theorem x_ret {e pos} {Q : Flow → Shared → Prop} (h : ∀ s, Fs B L m mu fz s → wpAny M A (eval e env) (fun v => Q (.ret v)) E s) :
    ∀ s, Fs B L m mu fz s → wpAny M A (exec (.Return (some e) pos) env) Q E s := fun s S => wpAny_Return_some (h s S)
theorem store {x : Str} {v : Value} {Q : Unit → Shared → Prop} (h : ∀ s, Fs B L (upd m x v) mu fz s → Q () s)
    (hL : env.locals = L := by rfl) (hk : env.scope.kind = .function := by rfl) (hl : env.kindOf x = some .local := by rfl) :
    ∀ s, Fs B L m mu fz s → wpAny M A (storeName env x v) Q E s := fun s S => by
  subst hL
  exact wpAny_storeName_local hl S.ns (fun h' hn hs => h _ (S.set hn hs.extBut)) (by rw [hk]; rfl)

-- expressions
theorem e_loc {x pos} {v : Value} {Q : Value → Shared → Prop} (hv : m x = some v) (h : ∀ s, Fs B L m mu fz s → Q v s)
    (hL : env.locals = L := by rfl) (hk : env.scope.kind = .function := by rfl) (hl : env.kindOf x = some .local := by rfl) (hd : (x == ("__debug__" : Str)) = false := by decide) :
    ∀ s, Fs B L m mu fz s → wpAny M A (eval (.Name x pos) env) Q E s := fun s S => by
  subst hL
  exact wpAny_Name (wpAny_loadName_local hk hl S.ns hv (h s S)) hd
theorem Tp.gns {mg mb : Str → Option Value} (T : Tp mg mb B.f0) {s : Shared} (S : Fs B L m mu fz s) : s.heap.Ns mainGlobals mg :=
  let ⟨_, ho, hn⟩ := T.g; hn.ns (S.get (S.le _ _ ho))
theorem Tp.bns {mg mb : Str → Option Value} (T : Tp mg mb B.f0) {s : Shared} (S : Fs B L m mu fz s) : s.heap.Ns builtinsNs mb :=
  let ⟨_, ho, hn⟩ := T.b; hn.ns (S.get (S.le _ _ ho))
theorem e_glob {mg mb : Str → Option Value} {x pos} {v : Value} {Q : Value → Shared → Prop} (T : Tp mg mb B.f0) (hv : gl.lookup x = some v) (h : ∀ s, Fs B L m mu fz s → Q v s)
    (hk : env.scope.kind = .function := by rfl) (hx : env.kindOf x = some .globalImplicit := by rfl) (hd : (x == ("__debug__" : Str)) = false := by decide) (hg : env.globals = mainGlobals := by rfl) :
    ∀ s, Fs B L m mu fz s → wpAny M A (eval (.Name x pos) env) Q E s := fun s S =>
  Name_function_global hk hx (loadGlobal_global (hg ▸ T.gns S) (T.hit _ _ hv) (h s S)) hd
theorem e_globV {mg mb : Str → Option Value} {x pos} {v : Value} {Q : Value → Shared → Prop} (T : Tp mg mb B.f0) (hv : mg x = some v) (h : ∀ s, Fs B L m mu fz s → Q v s)
    (hk : env.scope.kind = .function := by rfl) (hx : env.kindOf x = some .globalImplicit := by rfl) (hd : (x == ("__debug__" : Str)) = false := by decide) (hg : env.globals = mainGlobals := by rfl) :
    ∀ s, Fs B L m mu fz s → wpAny M A (eval (.Name x pos) env) Q E s := fun s S =>
  Name_function_global hk hx (loadGlobal_global (hg ▸ T.gns S) hv (h s S)) hd
theorem e_bi {mg mb : Str → Option Value} {x pos} {v : Value} {Q : Value → Shared → Prop} (T : Tp mg mb B.f0) (hv : bt.lookup x = some v) (h : ∀ s, Fs B L m mu fz s → Q v s)
    (hk : env.scope.kind = .function := by rfl) (hl : env.kindOf x = some .globalImplicit := by rfl) (hd : (x == ("__debug__" : Str)) = false := by decide) (hg : env.globals = mainGlobals := by rfl) (hb : env.builtins = builtinsNs := by rfl) :
    ∀ s, Fs B L m mu fz s → wpAny M A (eval (.Name x pos) env) Q E s := fun s S =>
  Name_function_global hk hl (loadGlobal_builtin (hg ▸ T.gns S) (T.miss _ _ hv).1 (hb ▸ T.bns S) (T.miss _ _ hv).2 (h s S)) hd
theorem e_int {i k pos} {Q : Value → Shared → Prop} (h : ∀ t s, Fs B L m mu fz s → Q (.int i t) s) : ∀ s, Fs B L m mu fz s → wpAny M A (eval (.Constant (.int i) k pos) env) Q E s :=
  fun _ S => wpAny_Constant_int (h _ _ S.toks)
theorem e_bool {b k pos} {Q : Value → Shared → Prop} (h : ∀ s, Fs B L m mu fz s → Q (.bool b) s) : ∀ s, Fs B L m mu fz s → wpAny M A (eval (.Constant (.bool b) k pos) env) Q E s :=
  fun s S => wpAny_Constant_bool (h s S)
theorem e_none {k pos} {Q : Value → Shared → Prop} (h : ∀ s, Fs B L m mu fz s → Q .none s) : ∀ s, Fs B L m mu fz s → wpAny M A (eval (.Constant .none k pos) env) Q E s :=
  fun s S => wpAny_Constant_none (h s S)
theorem e_bin {l op r pos} {Q : Value → Shared → Prop}
    (h : ∀ s, Fs B L m mu fz s → wpAny M A (eval l env) (fun a s₁ => wpAny M A (eval r env) (fun b s₂ => wpAny M A (binaryOp op a b) Q E s₂) E s₁) E s) :
    ∀ s, Fs B L m mu fz s → wpAny M A (eval (.BinOp l op r pos) env) Q E s := fun s S => wpAny_BinOp (h s S)
theorem e_cmp {l op r pos} {Q : Value → Shared → Prop}
    (h : ∀ s, Fs B L m mu fz s → wpAny M A (eval l env) (fun a s₁ => wpAny M A (eval r env) (fun b s₂ => wpAny M A (compareOp op a b) Q E s₂) E s₁) E s)
    (hm : behindInMarks op r = false := by with_unfolding_all rfl) :
    ∀ s, Fs B L m mu fz s → wpAny M A (eval (.Compare l [op] [r] pos) env) Q E s := fun s S => wpAny_Compare1 (h s S) hm
theorem t_cmp {l op r pos whole} {Q : Bool → Shared → Prop}
    (h : ∀ s, Fs B L m mu fz s → wpAny M A (eval l env) (fun a s₁ => wpAny M A (eval r env) (fun b s₂ => wpAny M A (compareOp op a b) (fun c s₃ => wpAny M A (truthy c) Q E s₃) E s₂) E s₁) E s)
    (hm : behindInMarks op r = false := by with_unfolding_all rfl) :
    ∀ s, Fs B L m mu fz s → wpAny M A (isTrue (.Compare l [op] [r] pos) env whole) Q E s := fun s S => wpAny_isTrue_Compare1 (h s S) hm
theorem t_not {x pos whole} {Q : Bool → Shared → Prop} (h : ∀ s, Fs B L m mu fz s → wpAny M A (isTrue x env (eval x env)) (fun c s' => Q (!c) s') E s) :
    ∀ s, Fs B L m mu fz s → wpAny M A (isTrue (.UnaryOp .Not x pos) env whole) Q E s := fun s S => isTrue_not (h s S)
theorem t_or {x rest pos whole} {Q : Bool → Shared → Prop}
    (h : ∀ s, Fs B L m mu fz s → wpAny M A (isTrue x env (eval x env)) (fun c s' => if c then Q true s' else wpAny M A (isTrue (.BoolOp .Or rest pos) env whole) Q E s') E s) :
    ∀ s, Fs B L m mu fz s → wpAny M A (isTrue (.BoolOp .Or (x :: rest) pos) env whole) Q E s := fun s S => isTrue_or (h s S)
theorem t_orNil {pos whole} {Q : Bool → Shared → Prop} (h : ∀ s, Fs B L m mu fz s → Q false s) : ∀ s, Fs B L m mu fz s → wpAny M A (isTrue (.BoolOp .Or [] pos) env whole) Q E s := fun s S => isTrue_or_nil (h s S)
theorem t_and {x rest pos whole} {Q : Bool → Shared → Prop}
    (h : ∀ s, Fs B L m mu fz s → wpAny M A (isTrue x env (eval x env)) (fun c s' => if c then wpAny M A (isTrue (.BoolOp .And rest pos) env whole) Q E s' else Q false s') E s) :
    ∀ s, Fs B L m mu fz s → wpAny M A (isTrue (.BoolOp .And (x :: rest) pos) env whole) Q E s := fun s S => isTrue_and (h s S)
theorem t_andNil {pos whole} {Q : Bool → Shared → Prop} (h : ∀ s, Fs B L m mu fz s → Q true s) : ∀ s, Fs B L m mu fz s → wpAny M A (isTrue (.BoolOp .And [] pos) env whole) Q E s := fun s S => isTrue_and_nil (h s S)
theorem t_name {x p} {Q : Bool → Shared → Prop} (h : ∀ s, Fs B L m mu fz s → wpAny M A (eval (.Name x p) env) (fun v s₁ => wpAny M A (truthy v) Q E s₁) E s) :
    ∀ s, Fs B L m mu fz s → wpAny M A (isTrue (.Name x p) env (eval (.Name x p) env)) Q E s := fun s S => isTrue_plain (h s S)
theorem t_call {f as ks p} {Q : Bool → Shared → Prop} (h : ∀ s, Fs B L m mu fz s → wpAny M A (eval (.Call f as ks p) env) (fun v s₁ => wpAny M A (truthy v) Q E s₁) E s) :
    ∀ s, Fs B L m mu fz s → wpAny M A (isTrue (.Call f as ks p) env (eval (.Call f as ks p) env)) Q E s := fun s S => isTrue_plain (h s S)
theorem e_ifexp {test body orelse : Expr} {pos : Pos} {Q : Value → Shared → Prop}
    (h : ∀ s, Fs B L m mu fz s → wpAny M A (isTrue test env (eval test env)) (fun b s₁ => if b then wpAny M A (eval body env) Q E s₁ else wpAny M A (eval orelse env) Q E s₁) E s) :
    ∀ s, Fs B L m mu fz s → wpAny M A (eval (.IfExp test body orelse pos) env) Q E s := fun s S => wpAny_IfExp (h s S)
theorem e_sub {value slice pos} {Q : Value → Shared → Prop}
    (h : ∀ s, Fs B L m mu fz s → wpAny M A (eval value env) (fun o s₁ => wpAny M A (eval slice env) (fun i s₂ => wpAny M A (subscriptTail value slice o i) Q E s₂) E s₁) E s) :
    ∀ s, Fs B L m mu fz s → wpAny M A (eval (.Subscript value slice pos) env) Q E s := fun s S => Subscript_ (h s S)
theorem e_list {elts pos} {Q : Value → Shared → Prop} (h : ∀ s, Fs B L m mu fz s → wpAny M A (spliced (backTo pos (starEach elts env))) (fun vs s₁ => wpAny M A (newList vs) Q E s₁) E s) :
    ∀ s, Fs B L m mu fz s → wpAny M A (eval (.List elts pos) env) Q E s := fun s S => List_ (h s S)
theorem e_tuple {elts k pos} {Q : Value → Shared → Prop} (h : ∀ s, Fs B L m mu fz s → wpAny M A (spliced (backTo pos (starEach elts env))) (fun vs s₁ => wpAny M A (newTuple vs) Q E s₁) E s) :
    ∀ s, Fs B L m mu fz s → wpAny M A (eval (.Tuple elts k pos) env) Q E s := fun s S => Tuple_ (h s S)
theorem e_call {func : Expr} {args : List Expr} {pos : Pos} {Q : Value → Shared → Prop}
    (h : ∀ s, Fs B L m mu fz s → wpAny M A (eval func env) (fun f s₁ => wpAny M A (callWith pos f [] (backTo pos (starEach args env)) []) Q E s₁) E s)
    (he : eval (.Call func args [] pos) env = (do callWith pos (← eval func env) [] (backTo pos (starEach args env)) (backToKw pos (keywordEach [] env))) := by rfl) :
    ∀ s, Fs B L m mu fz s → wpAny M A (eval (.Call func args [] pos) env) Q E s := fun s S => Call_ (h s S) he
theorem a_nil {pos : Pos} {Q : List Value → Shared → Prop} (h : ∀ s, Fs B L m mu fz s → Q [] s) : ∀ s, Fs B L m mu fz s → wpAny M A (spliced (backTo pos (starEach [] env))) Q E s := fun s S => args_nil (h s S)
theorem a_cons {e : Expr} {rest : List Expr} {pos : Pos} {Q : List Value → Shared → Prop}
    (h : ∀ s, Fs B L m mu fz s → wpAny M A (eval e env) (fun v s₁ => wpAny M A (spliced (backTo pos (starEach rest env))) (fun vs s₂ => Q (v :: vs) s₂) E s₁) E s)
    (he : starEach (e :: rest) env = (false, eval e env) :: starEach rest env := by rfl) :
    ∀ s, Fs B L m mu fz s → wpAny M A (spliced (backTo pos (starEach (e :: rest) env))) Q E s := fun s S => args_cons (h s S) he
theorem c_builtin {pos : Pos} {id : String} {e : Expr} {rest : List Expr} {Q : Value → Shared → Prop}
    (h : ∀ s, Fs B L m mu fz s → wpAny M A (spliced (backTo pos (starEach (e :: rest) env))) (fun vs s₁ => wpAny M A (call (.builtin id) vs) Q E s₁) E s)
    (he : starEach (e :: rest) env = (false, eval e env) :: starEach rest env := by rfl)
    (hplain : (backTo pos (starEach rest env)).any (·.1) = false := by rfl) :
    ∀ s, Fs B L m mu fz s → wpAny M A (callWith pos (.builtin id) [] (backTo pos (starEach (e :: rest) env)) []) Q E s := fun s S => callWith_builtin1 (h s S) he hplain
theorem c_type {pos : Pos} {T : String} {e : Expr} {rest : List Expr} {Q : Value → Shared → Prop}
    (h : ∀ s, Fs B L m mu fz s → wpAny M A (spliced (backTo pos (starEach (e :: rest) env))) (fun vs s₁ => wpAny M A (call (.type T) vs) Q E s₁) E s)
    (he : starEach (e :: rest) env = (false, eval e env) :: starEach rest env := by rfl)
    (hplain : (backTo pos (starEach rest env)).any (·.1) = false := by rfl) :
    ∀ s, Fs B L m mu fz s → wpAny M A (callWith pos (.type T) [] (backTo pos (starEach (e :: rest) env)) []) Q E s := fun s S => PyProof.Rows.callWith_type1 (h s S) he hplain
/-- what stays is there -/
noncomputable def Fl (f : Fz) (s : Shared) : Prop := ∀ a o, f a o → s.heap.get? a = some o
theorem l_fl {P : Shared → Prop} (h : ∀ s, Fs B L m mu fz s → P s) : ∀ s, Fs B L m mu fz s → Fl B.f0 s ∧ P s := fun s S => ⟨fun _ _ e => S.get (S.le _ _ e), h s S⟩
theorem c_fn {pos : Pos} {a c k : Nat} {e : Expr} {rest : List Expr} {Q : Value → Shared → Prop} (hf : FnAt B.f0 a c k)
    (h : ∀ s, Fs B L m mu fz s → wpAny M A (spliced (backTo pos (starEach (e :: rest) env))) (fun vs s₁ => Fl B.f0 s₁ ∧ wpAny M A (call (.ref a) vs) Q E s₁) E s)
    (he : starEach (e :: rest) env = (false, eval e env) :: starEach rest env := by rfl) :
    ∀ s, Fs B L m mu fz s → wpAny M A (callWith pos (.ref a) [] (backTo pos (starEach (e :: rest) env)) []) Q E s := fun s S => by
  obtain ⟨o, pm, doc, ho, hd, _⟩ := hf
  exact callWith_def hd (wpAny_mono (h s S) (fun vs s₁ h₁ => ⟨h₁.1 _ _ ho, h₁.2⟩) fun _ _ x => x) he
end

section
variable {prog : Program} {w : World} {A : Around} {E : Value → Shared → Prop} {env : Env} {B : Bs} {L : Addr} {m : Str → Option Value} {mu : Led} {fz : Fz}

theorem x_expr {e pos} {Q : Flow → Shared → Prop} (h : ∀ s, Fs B L m mu fz s → wpAny (model prog w) A (eval e env) (fun _ => Q .next) E s)
    (hi : interactive env = false := by rfl) (hs : swapsWith e none pos.line env = pure false := by rfl) :
    ∀ s, Fs B L m mu fz s → wpAny (model prog w) A (exec (.Expr e pos) env) Q E s := fun s S => wpAny_Expr_any (h s S) hi hs

/-- a while, by what holds at each turn and a number that falls -/
theorem x_while {test body pos} {Q : Flow → Shared → Prop} (I : Nat → (Str → Option Value) → Led → Fz → Prop) (n : Nat) (h0 : I n m mu fz)
    (turn : ∀ n m mu fz, I n m mu fz → ∀ s, Fs B L m mu fz s → wpAny (model prog w) A (isTrue test env (eval test env)) (fun b s₂ =>
      if b then wpAny (model prog w) A (execs body env) (fun f s₃ => match f with
        | .next | .cont => ∃ n' m' mu' fz', n' < n ∧ I n' m' mu' fz' ∧ Fs B L m' mu' fz' s₃
        | .brk => Q .next s₃
        | .ret v => Q (.ret v) s₃) NE s₂
      else Q .next s₂) NE s) :
    ∀ s, Fs B L m mu fz s → wpAny (model prog w) A (exec (.While test body [] pos) env) Q NE s := fun s S => by
  refine wpAny_While (codeAny_whileLoop (fun n s => ∃ m mu fz, I n m mu fz ∧ Fs B L m mu fz s) (fun n s hI => ?_) n ⟨m, mu, fz, h0, S⟩)
  obtain ⟨m, mu, fz, hI, S⟩ := hI
  refine wpAny_mono (turn n m mu fz hI s S) (fun b s₂ h₂ => ?_) fun _ _ x => x.elim
  cases b with
  | false => exact wpAny_execs_nil h₂
  | true =>
    refine wpAny_mono h₂ (fun f s₃ h₃ => ?_) fun _ _ x => x.elim
    cases f with
    | next => obtain ⟨n', m', mu', fz', hlt, hI', S'⟩ := h₃; exact ⟨n', hlt, m', mu', fz', hI', S'⟩
    | cont => obtain ⟨n', m', mu', fz', hlt, hI', S'⟩ := h₃; exact ⟨n', hlt, m', mu', fz', hI', S'⟩
    | brk => exact h₃
    | ret v => exact h₃

theorem x_for0 {target iter body pos} {Q : Flow → Shared → Prop}
    (h : ∀ s, Fs B L m mu fz s → wpAny (model prog w) A (eval iter env) (fun x s₁ => wpAny (model prog w) A (pyIter x) (fun it s₂ =>
      codeAny (model prog w) A (.forLoop target it body [] env) (fun r s' => match r with | .ok f => Q f s' | .error e => cameBackBy (model prog w) A env NE e s') s₂) NE s₁) NE s)
    (hs : ∀ x, foldedSetIterable iter env x = pure x := by intro _; rfl) :
    ∀ s, Fs B L m mu fz s → wpAny (model prog w) A (exec (.For target iter body [] pos) env) Q NE s := fun s S => wpAny_For (h s S) hs

/-- the frame's state while some objects that are none of its change -/
theorem Fs.but {s : Shared} (S : Fs B L m mu fz s) {wr : List Addr} {h' : Heap} {tk : Nat} (hk : ∀ b o, b ∉ wr → s.heap.get? b = some o → h'.get? b = some o)
    (off : ∀ b ∈ wr, b ≠ L ∧ b ∉ mu.map (·.1) ∧ (∀ o, ¬ fz b o) ∧ B.s0.heap.get? b = none) : Fs B L m mu fz { s with heap := h', toks := tk } where
  gens := S.gens
  drawn := S.drawn
  os := S.os
  ns := by
    obtain ⟨o, es, ep, ho, r⟩ := S.ns
    exact ⟨o, es, ep, hk _ _ (fun hb => (off _ hb).1 rfl) ho, r⟩
  keep := S.keep.but (wr := fun b => b ∈ wr) (fun b o hb e => hk b o hb e) (fun b hb => (off b hb).2.2.2)
  newL := S.newL
  le := S.le
  fzs := fun a o h => ⟨hk _ _ (fun hb => (off _ hb).2.2.1 _ h) (S.fzs a o h).1, (S.fzs a o h).2⟩
  mus := fun p hp => ⟨hk _ _ (fun hb => (off _ hb).2.1 (List.mem_map.mpr ⟨p, hp, rfl⟩)) (S.mus p hp).1, (S.mus p hp).2⟩
  nd := S.nd
theorem led_of {h : Heap} : ∀ {wr : List Addr}, (∀ b ∈ wr, ∃ o, h.get? b = some o) → ∃ ex : Led, ex.map (·.1) = wr ∧ ∀ p ∈ ex, h.get? p.1 = some p.2
  | [], _ => ⟨[], rfl, fun _ h => nomatch h⟩
  | b :: wr, H => by
    obtain ⟨o, ho⟩ := H b (by simp)
    obtain ⟨ex, e, h1⟩ := led_of (wr := wr) fun c hc => H c (by simp [hc])
    refine ⟨(b, o) :: ex, by simp [e], fun p hp => ?_⟩
    rcases List.mem_cons.mp hp with rfl | hp
    · exact ho
    · exact h1 p hp
theorem Fs.with {s : Shared} (S : Fs B L m mu fz s) {ex : Led} {wr : List Addr} (e : ex.map (·.1) = wr) (nd : wr.Nodup) (hex : ∀ p ∈ ex, s.heap.get? p.1 = some p.2)
    (off : ∀ b ∈ wr, b ≠ L ∧ b ∉ mu.map (·.1) ∧ (∀ o, ¬ fz b o) ∧ B.s0.heap.get? b = none) : Fs B L m (mu ++ ex) fz s := by
  refine ⟨S.gens, S.drawn, S.os, S.ns, S.keep, S.newL, S.le, S.fzs, ?_, ?_⟩
  · intro p hp
    rcases List.mem_append.mp hp with hp | hp
    · exact S.mus p hp
    · have := off p.1 (e ▸ List.mem_map.mpr ⟨p, hp, rfl⟩)
      exact ⟨hex p hp, this.1, this.2.2.1, this.2.2.2⟩
  · rw [List.map_append, List.nodup_append, e]
    refine ⟨S.nd, nd, fun a ha b hb hab => ?_⟩
    subst hab
    exact (off a hb).2.1 ha
theorem Fs.offOf {s : Shared} {ex : Led} {wr : List Addr} (e : ex.map (·.1) = wr) (S : Fs B L m (mu ++ ex) fz s) : ∀ b ∈ wr, b ≠ L ∧ b ∉ mu.map (·.1) ∧ (∀ o, ¬ fz b o) ∧ B.s0.heap.get? b = none := by
  intro b hb
  rw [← e] at hb
  obtain ⟨p, hp, rfl⟩ := List.mem_map.mp hb
  have hm := S.mus p (List.mem_append.mpr (.inr hp))
  refine ⟨hm.2.1, fun hb' => ?_, hm.2.2.1, hm.2.2.2⟩
  have nd := S.nd
  rw [List.map_append, List.nodup_append] at nd
  exact nd.2.2 _ hb' _ (List.mem_map.mpr ⟨p, hp, rfl⟩) rfl

/-- a for over whatever walks, one name -/
theorem loop_walk {x : Str} {px : Pos} {body : List Stmt} {Q : Flow → Shared → Prop} {I : Addr} {fp wr : List Addr} {n : Nat} {P : Nat → Value → Prop} {SI : Nat → Heap → Prop} {s : Shared}
    (W : Walks prog w A I fp wr n P SI) (J : Nat → (Str → Option Value) → Led → Fz → Prop) (nd : wr.Nodup) (live : ∀ i h, SI i h → ∀ b ∈ wr, ∃ o, h.get? b = some o)
    (h0 : SI 0 s.heap) (S : Fs B env.locals m mu fz s) (hJ : J 0 m mu fz)
    (off : ∀ b ∈ wr, b ≠ env.locals ∧ b ∉ mu.map (·.1) ∧ (∀ o, ¬ fz b o) ∧ B.s0.heap.get? b = none) (hfp : ∀ b ∈ fp, b ∈ wr ∨ ∃ o, fz b o)
    (turn : ∀ i v m₁ mu₁ fz₁ ex, i < n → P i v → fz.le fz₁ → J i m₁ mu₁ fz₁ → ∀ s, Fs B env.locals (upd m₁ x v) (mu₁ ++ ex) fz₁ s →
      wpAny (model prog w) A (execs body env) (fun f s₂ => match f with
        | .next | .cont => ∃ m₂ mu₂ fz₂, fz₁.le fz₂ ∧ J (i + 1) m₂ mu₂ fz₂ ∧ Fs B env.locals m₂ (mu₂ ++ ex) fz₂ s₂
        | .brk => Q .next s₂
        | .ret v => Q (.ret v) s₂) NE s)
    (done : ∀ m' mu' fz', fz.le fz' → J n m' mu' fz' → ∀ s, Fs B env.locals m' mu' fz' s → Q .next s)
    (hk : env.scope.kind = .function := by rfl) (hl : env.kindOf x = some .local := by rfl) :
    codeAny (model prog w) A (.forLoop (.Name x px) (.ref I) body [] env) (fun r s' => match r with | .ok f => Q f s' | .error e => cameBackBy (model prog w) A env NE e s') s := by
  refine codeAny_forLoop (fun k s' => ∃ i m' mu' fz', k = n + 1 - i ∧ i ≤ n ∧ SI i s'.heap ∧ fz.le fz' ∧ J i m' mu' fz' ∧ Fs B env.locals m' mu' fz' s' ∧
      (∀ b ∈ wr, b ≠ env.locals ∧ b ∉ mu'.map (·.1) ∧ (∀ o, ¬ fz' b o) ∧ B.s0.heap.get? b = none)) ?_ (n + 1) ⟨0, m, mu, fz, rfl, Nat.zero_le _, h0, Fz.le_refl _, hJ, S, off⟩
  rintro k s' ⟨i, m', mu', fz', rfl, hi, hSI, hle, hJ', S', off'⟩
  by_cases hlt : i < n
  · refine W.item i s' _ _ hlt hSI fun v h₁ tk hP hS₁ hk₁ => ?_
    have S₁ : Fs B env.locals m' mu' fz' { s' with heap := h₁, toks := tk } := S'.but hk₁ off'
    obtain ⟨ex, eex, hex⟩ := led_of (live _ _ hS₁)
    have S₂ := S₁.with eex nd hex off'
    refine wpAny_assign_Name (store (hL := rfl) (fun s₂ S₃ => wpAny_mono (turn i v m' mu' fz' ex hlt hP hle hJ' s₂ S₃) (fun f s₃ h₃ => ?_) fun _ _ e => e.elim) hk hl _ S₂)
    have fin : (∃ m₂ mu₂ fz₂, fz'.le fz₂ ∧ J (i + 1) m₂ mu₂ fz₂ ∧ Fs B env.locals m₂ (mu₂ ++ ex) fz₂ s₃) → ∃ k', k' < n + 1 - i ∧ ∃ i m' mu' fz', k' = n + 1 - i ∧ i ≤ n ∧ SI i s₃.heap ∧ fz.le fz' ∧ J i m' mu' fz' ∧ Fs B env.locals m' mu' fz' s₃ ∧
      (∀ b ∈ wr, b ≠ env.locals ∧ b ∉ mu'.map (·.1) ∧ (∀ o, ¬ fz' b o) ∧ B.s0.heap.get? b = none) := by
      rintro ⟨m₂, mu₂, fz₂, hle₂, hJ₂, S₄⟩
      refine ⟨n + 1 - (i + 1), by omega, i + 1, m₂, mu₂, fz₂, rfl, hlt, ?_, Fz.le_trans hle hle₂, hJ₂, S₄.sub (List.sublist_append_left ..), S₄.offOf eex⟩
      refine W.frame _ _ _ hS₁ fun b hb o ho => ?_
      rcases hfp b hb with hb | ⟨q, hq⟩
      · rw [← eex] at hb
        obtain ⟨p, hp, rfl⟩ := List.mem_map.mp hb
        have e1 := hex p hp
        have e2 : h₁.get? p.1 = some p.2 := e1
        rw [ho] at e2
        cases e2
        exact S₄.own (List.mem_append.mpr (.inr hp))
      · have e1 : h₁.get? b = some q := S₁.get (hle _ _ hq)
        rw [ho] at e1
        cases e1
        exact S₄.get (hle₂ _ _ (hle _ _ hq))
    cases f with
    | next => exact fin h₃
    | cont => exact fin h₃
    | brk => exact h₃
    | ret v => exact h₃
  · have hin : i = n := by omega
    subst hin
    refine W.done s' _ _ hSI fun h₁ tk hk₁ => wpAny_execs_nil ?_
    exact done m' mu' fz' hle hJ' _ (S'.but hk₁ off')
end
end Mine
end
-- text MCall
section
open PySem PySem.W PyProof.Rows PySem.Calls
set_option Elab.async false
namespace Mine

theorem FnAt.mono {f g : Fz} {a c k : Nat} (h : f.le g) (x : FnAt f a c k) : FnAt g a c k :=
  let ⟨o, pm, doc, ho, hd, oc, vs, t, hc, r⟩ := x; ⟨o, pm, doc, h _ _ ho, hd, oc, vs, t, h _ _ hc, r⟩
theorem FnAtD.mono {f g : Fz} {a c k : Nat} {dV kV : Value} (h : f.le g) (x : FnAtD f a c k dV kV) : FnAtD g a c k dV kV :=
  let ⟨o, pm, doc, ho, hd, oc, vs, t, hc, r⟩ := x; ⟨o, pm, doc, h _ _ ho, hd, oc, vs, t, h _ _ hc, r⟩
theorem Tp.mono {mg mb : Str → Option Value} {f g : Fz} (h : f.le g) (T : Tp mg mb f) : Tp mg mb g where
  g := let ⟨o, ho, r⟩ := T.g; ⟨o, h _ _ ho, r⟩
  b := let ⟨o, ho, r⟩ := T.b; ⟨o, h _ _ ho, r⟩
  nl := let ⟨o, mc, ho, r⟩ := T.nl; ⟨o, mc, h _ _ ho, r⟩
  hit := T.hit
  miss := T.miss
  f28 := T.f28.mono h
  f35 := T.f35.mono h
  f42 := T.f42.mono h
  f65 := T.f65.mono h
  f72 := T.f72.mono h
  f77 := T.f77.mono h
  f82 := T.f82.mono h
  f89 := T.f89.mono h
  f94 := T.f94.mono h
  f99 := T.f99.mono h
  f106 := T.f106.mono h
  f113 := T.f113.mono h
  f118 := T.f118.mono h
  f123 := T.f123.mono h
  f50 := T.f50.mono h
  f58 := T.f58.mono h
  d51 := h _ _ T.d51
  b64 := T.b64
  utr := T.utr
section
variable {prog : Program} {w : World} {A : Around} {E : Value → Shared → Prop} {env : Env} {B : Bs} {L : Addr} {m : Str → Option Value} {mu : Led} {fz fz' : Fz} {mg mb : Str → Option Value}
theorem Tp.at (T : Tp mg mb B.f0) {s : Shared} (S : Fs B L m mu fz s) : Tp mg mb fz := T.mono S.le
theorem Tp.noLimit (T : Tp mg mb fz) {s : Shared} (S : Fs B L m mu fz s) : s.heap.NoLimit := by
  obtain ⟨o, mc, ho, hn, e⟩ := T.nl
  exact ⟨mc, hn.ns (S.get ho), e⟩
theorem Fs.less {s : Shared} (S : Fs B L m mu fz' s) (h : fz.le fz') (h0 : B.f0.le fz) : Fs B L m mu fz s :=
  ⟨S.gens, S.drawn, S.os, S.ns, S.keep, S.newL, h0, fun a o e => S.fzs a o (h a o e), fun p hp => ⟨(S.mus p hp).1, (S.mus p hp).2.1, fun o e => (S.mus p hp).2.2.1 o (h _ o e), (S.mus p hp).2.2.2⟩, S.nd⟩

theorem Fs.kpCall {s : Shared} (S : Fs B L m mu fz s) {h : Heap} (hk : ∀ b o, s.heap.get? b = some o → h.get? b = some o) : Kp ⟨s, fz, L :: B.fs⟩ h where
  ex := fun b o e _ => hk b o e
  up := fun b o e _ => ⟨o.slots, hk b o e⟩
  fsOk := fun b hb => by
    rcases List.mem_cons.mp hb with rfl | hb
    · obtain ⟨x, _, _, hx, hd, _⟩ := S.ns; exact ⟨x, hx, fun vs q => by rw [hd] at q; cases q⟩
    · obtain ⟨o, ho, hn⟩ := S.keep.fsOk b hb
      obtain ⟨sl, h1⟩ := S.keep.up b o ho hb
      exact ⟨_, h1, hn⟩
  f0fs := fun a o e hb => by
    rcases List.mem_cons.mp hb with rfl | hb
    · exact (S.fzs _ o e).2.1 rfl
    · rcases (S.fzs a o e).2.2 with q | q
      · exact S.keep.f0fs a o q hb
      · exact S.keep.none_fs q hb
/-- the names of a frame by its bindings -/
noncomputable def mOf (binds : List (Str × Value)) : Str → Option Value := binds.foldl (fun m p => upd m p.1 p.2) fun _ => none
theorem lookup_mOf (binds : List (Str × Value)) : (fun x => binds.reverse.lookup x) = mOf binds := by
  have : ∀ (bs : List (Str × Value)) (m : Str → Option Value) (x : Str), (bs.reverse.lookup x).or (m x) = bs.foldl (fun m p => upd m p.1 p.2) m x := by
    intro bs
    induction bs with
    | nil => intro m x; simp
    | cons p bs ih =>
      intro m x
      obtain ⟨k, u⟩ := p
      rw [List.foldl_cons, ← ih, List.reverse_cons, List.lookup_append]
      cases e : bs.reverse.lookup x with
      | some v => simp
      | none =>
        simp only [Option.none_or, upd, List.lookup_cons, List.lookup_nil]
        by_cases h : x = k
        · subst h; simp
        · have hb : (x == k) = false := beq_eq_false_iff_ne.mpr h
          simp [hb, h]
  funext x
  have := this binds (fun _ => none) x
  simpa [mOf] using this

/-- how a frame hands back -/
noncomputable def Ret (B : Bs) (L : Addr) (Res : Value → Fz → Prop) (f : Flow) (s : Shared) : Prop := ∃ v m mu fz, f = .ret v ∧ Fs B L m mu fz s ∧ Res v fz
theorem Ret.mk {s : Shared} {Res : Value → Fz → Prop} {v : Value} (S : Fs B L m mu fz s) (h : Res v fz) : Ret B L Res (.ret v) s := ⟨v, m, mu, fz, rfl, S, h⟩

/-- a call of a def of the text: its frame apart -/
theorem call_fn {a c k : Nat} {args : List Value} {binds : List (Str × Value)} {Q : Value → Shared → Prop} (Res : Value → Fz → Prop) (T : Tp mg mb fz) (hf : FnAt fz a c k) (hA : A.depth < recursionLimit)
    (hbind : ∀ pm doc, bindArgs (docDef (sName (topS k)) (sParams (topS k)) (sBody (topS k)) (sScope (topS k)) pm (.ref c) doc) ⟨args, []⟩ = pure binds)
    (hloc : (binds.all fun x => decide ((sScope (topS k)).names.lookup x.1 = some .local)) = true)
    (hb : ∀ (B' : Bs) (L' : Addr), B'.f0 = fz → B'.fs = L :: B.fs → ∀ s, Fs B' L' (mOf binds) [] fz s →
      wpAny (model prog w) (A.deeper (envOf (sName (topS k)) (sScope (topS k)) L' a (.ref c))) (execs (sBody (topS k)) (envOf (sName (topS k)) (sScope (topS k)) L' a (.ref c))) (Ret B' L' Res) NE s)
    (h : ∀ v fz', fz.le fz' → Res v fz' → ∀ s, Fs B L m mu fz' s → Q v s)
    (hco : (sScope (topS k)).isCoroutine = false := by rfl) (hgen : (sScope (topS k)).isGenerator = false := by rfl) (hk : (sScope (topS k)).kind = .function := by rfl)
    (hcell : ∀ x ∈ (sScope (topS k)).names, x.2 ≠ .cell := by decide) :
    ∀ s, Fs B L m mu fz s → wpAny (model prog w) A (call (.ref a) args) Q E s := fun s S => by
  obtain ⟨o, pm, doc, ho, hd, oc, vs, t, hoc, hdc, hq⟩ := hf
  refine wpAny_call (call_plain_ret hA (S.get ho) hd (T.noLimit S) ⟨c, oc, vs, t, rfl, S.get hoc, hdc, hq⟩ (hbind pm doc) (locs hloc) (fun h₁ F => ?_) hco hgen hk hcell)
  rw [lookup_mOf] at F
  have S₁ : Fs ⟨s, fz, L :: B.fs⟩ s.heap.objs.size (mOf binds) [] fz { s with heap := h₁, toks := s.toks + binds.length } := by
    refine ⟨rfl, rfl, rfl, F.ns, S.kpCall F.keep, ?_, Fz.le_refl _, fun a o e => ?_, fun p hp => (nomatch hp), List.nodup_nil⟩
    · show s.heap.get? s.heap.objs.size = none
      cases e : s.heap.get? s.heap.objs.size with
      | none => rfl
      | some o => exact absurd (Heap.lt_size e) (Nat.lt_irrefl _)
    · have := S.get e
      exact ⟨F.keep _ _ this, Nat.ne_of_lt (Heap.lt_size this), .inl e⟩
  refine wpAny_mono (hb ⟨s, fz, L :: B.fs⟩ _ rfl rfl _ S₁) (fun f s' hr => ?_) fun _ _ x => x
  obtain ⟨v, m', mu', fz', rfl, S', hR⟩ := hr
  exact h v fz' S'.le hR s' (S.back S')
end
end Mine
end
-- text MOps
section
open PySem PySem.W PyProof.Rows PySem.Calls
set_option Elab.async false
namespace Mine
section
variable {prog : Program} {w : World} {A : Around} {E : Value → Shared → Prop} {env : Env} {B : Bs} {L : Addr} {m : Str → Option Value} {mu : Led} {fz fz' : Fz} {mg mb : Str → Option Value} {a b : Int} {t u : Tok}
theorem i_add {Q : Value → Shared → Prop} (h : ∀ t s, Fs B L m mu fz s → Q (.int (a + b) t) s) : ∀ s, Fs B L m mu fz s → wpAny (model prog w) A (binaryOp .Add (.int a t) (.int b u)) Q E s := fun _ S => wpAny_add_int (h _ _ S.toks)
theorem i_iadd {Q : Value → Shared → Prop} (h : ∀ t s, Fs B L m mu fz s → Q (.int (a + b) t) s) : ∀ s, Fs B L m mu fz s → wpAny (model prog w) A (inplaceOp .Add (.int a t) (.int b u)) Q E s := fun _ S => wpAny_iadd_int (h _ _ S.toks)
theorem i_sub {Q : Value → Shared → Prop} (h : ∀ t s, Fs B L m mu fz s → Q (.int (a - b) t) s) : ∀ s, Fs B L m mu fz s → wpAny (model prog w) A (binaryOp .Sub (.int a t) (.int b u)) Q E s := fun _ S => sub_int' (h _ _ S.toks)
theorem i_mul {Q : Value → Shared → Prop} (hm : IntMulOk a b) (h : ∀ t s, Fs B L m mu fz s → Q (.int (a * b) t) s) : ∀ s, Fs B L m mu fz s → wpAny (model prog w) A (binaryOp .Mult (.int a t) (.int b u)) Q E s := fun _ S => mul_int (h _ _ S.toks) hm
theorem i_div {Q : Value → Shared → Prop} (hb : b ≠ 0) (hp : ∀ s, Fs B L m mu fz s → Builtin.divisionGoesByPylong a b = false ∨ PySem.PylongRoom (model prog w) A s) (h : ∀ t s, Fs B L m mu fz s → Q (.int (a.fdiv b) t) s) : ∀ s, Fs B L m mu fz s → wpAny (model prog w) A (binaryOp .FloorDiv (.int a t) (.int b u)) Q E s := fun _ S => floordiv_int hb (h _ _ S.toks) (hp _ S)
theorem i_mod {Q : Value → Shared → Prop} (hb : b ≠ 0) (h : ∀ t s, Fs B L m mu fz s → Q (.int (a.fmod b) t) s) : ∀ s, Fs B L m mu fz s → wpAny (model prog w) A (binaryOp .Mod (.int a t) (.int b u)) Q E s := fun _ S => mod_int' hb (h _ _ S.toks)
theorem i_pow {Q : Value → Shared → Prop} (hn : 0 ≤ b) (hsz : (Builtin.Int.intBits a : Int) * b ≤ 2 ^ 27) (h : ∀ t s, Fs B L m mu fz s → Q (.int (a ^ b.toNat) t) s) : ∀ s, Fs B L m mu fz s → wpAny (model prog w) A (binaryOp .Pow (.int a t) (.int b u)) Q E s := fun _ S => pow_int hn hsz (h _ _ S.toks)
theorem i_shl {Q : Value → Shared → Prop} (hn : 0 ≤ b) (hsz : (Builtin.Int.intBits a : Int) + b ≤ 2 ^ 27) (h : ∀ t s, Fs B L m mu fz s → Q (.int (a * 2 ^ b.toNat) t) s) : ∀ s, Fs B L m mu fz s → wpAny (model prog w) A (binaryOp .LShift (.int a t) (.int b u)) Q E s := fun _ S => lshift_int hn hsz (h _ _ S.toks)
theorem i_shr {Q : Value → Shared → Prop} (hn : 0 ≤ b) (h : ∀ t s, Fs B L m mu fz s → Q (.int (a.fdiv (2 ^ b.toNat)) t) s) : ∀ s, Fs B L m mu fz s → wpAny (model prog w) A (binaryOp .RShift (.int a t) (.int b u)) Q E s := fun _ S => rshift_int hn (h _ _ S.toks)
theorem i_and {Q : Value → Shared → Prop} (h : ∀ t s, Fs B L m mu fz s → Q (.int (Builtin.bitAnd a b) t) s) : ∀ s, Fs B L m mu fz s → wpAny (model prog w) A (binaryOp .BitAnd (.int a t) (.int b u)) Q E s := fun _ S => and_int (h _ _ S.toks)
theorem i_or {Q : Value → Shared → Prop} (h : ∀ t s, Fs B L m mu fz s → Q (.int (Builtin.bitOr a b) t) s) : ∀ s, Fs B L m mu fz s → wpAny (model prog w) A (binaryOp .BitOr (.int a t) (.int b u)) Q E s := fun _ S => or_int (h _ _ S.toks)
theorem c_lt {Q : Value → Shared → Prop} (h : ∀ s, Fs B L m mu fz s → Q (.bool (decide (a < b))) s) : ∀ s, Fs B L m mu fz s → wpAny (model prog w) A (compareOp .Lt (.int a t) (.int b u)) Q E s := fun _ S => wpAny_lt_int (h _ S)
theorem c_gt {Q : Value → Shared → Prop} (h : ∀ s, Fs B L m mu fz s → Q (.bool (decide (b < a))) s) : ∀ s, Fs B L m mu fz s → wpAny (model prog w) A (compareOp .Gt (.int a t) (.int b u)) Q E s := fun _ S => gt_int (h _ S)
theorem c_ge {Q : Value → Shared → Prop} (h : ∀ s, Fs B L m mu fz s → Q (.bool (decide (b ≤ a))) s) : ∀ s, Fs B L m mu fz s → wpAny (model prog w) A (compareOp .GtE (.int a t) (.int b u)) Q E s := fun _ S => ge_int (h _ S)
theorem c_eq {Q : Value → Shared → Prop} (h : ∀ s, Fs B L m mu fz s → Q (.bool (a == b)) s) : ∀ s, Fs B L m mu fz s → wpAny (model prog w) A (compareOp .Eq (.int a t) (.int b u)) Q E s := fun _ S => wpAny_eq_int (h _ S)
theorem tr_bool {c : Bool} {Q : Bool → Shared → Prop} (h : ∀ s, Fs B L m mu fz s → Q c s) : ∀ s, Fs B L m mu fz s → wpAny (model prog w) A (truthy (.bool c)) Q E s := fun _ S => wpAny_truthy_bool (h _ S)
theorem br {c : Bool} {P P' : Shared → Prop} (h : c = true → ∀ s, Fs B L m mu fz s → P s) (h' : c = false → ∀ s, Fs B L m mu fz s → P' s) : ∀ s, Fs B L m mu fz s → if c = true then P s else P' s := by
  intro s S
  cases c with
  | true => rw [if_pos rfl]; exact h rfl s S
  | false => rw [if_neg (by simp)]; exact h' rfl s S
theorem brT {c : Bool} {P P' : Shared → Prop} (hc : c = true) (h : ∀ s, Fs B L m mu fz s → P s) : ∀ s, Fs B L m mu fz s → if c = true then P s else P' s := br (fun _ => h) fun e => by rw [hc] at e; cases e
theorem brF {c : Bool} {P P' : Shared → Prop} (hc : c = false) (h : ∀ s, Fs B L m mu fz s → P' s) : ∀ s, Fs B L m mu fz s → if c = true then P s else P' s := br (fun e => by rw [hc] at e; cases e) fun _ => h
theorem brD {p : Prop} [Decidable p] {P P' : Shared → Prop} (h : p → ∀ s, Fs B L m mu fz s → P s) (h' : ¬ p → ∀ s, Fs B L m mu fz s → P' s) : ∀ s, Fs B L m mu fz s → if decide p = true then P s else P' s :=
  br (fun e => h (of_decide_eq_true e)) fun e => h' (of_decide_eq_false e)

-- calls of built-in types and functions
theorem k_range1 {n : Int} {Q : Value → Shared → Prop} (h : ∀ r t1 t2 t3 s, Fs B L m mu (fz.add r { cls := .type "range", data := .fields #[.int 0 t1, .int n t2, .int 1 t3] }) s → Q (.ref r) s) :
    ∀ s, Fs B L m mu fz s → wpAny (model prog w) A (call (.type "range") [.int n t]) Q E s := fun s S => call_range_1 (h _ _ _ _ _ (S.allocF _))
theorem k_range2 {n k : Int} {Q : Value → Shared → Prop} (h : ∀ r t1 t2 t3 s, Fs B L m mu (fz.add r { cls := .type "range", data := .fields #[.int n t1, .int k t2, .int 1 t3] }) s → Q (.ref r) s) :
    ∀ s, Fs B L m mu fz s → wpAny (model prog w) A (call (.type "range") [.int n t, .int k u]) Q E s := fun s S => call_range_2 (h _ _ _ _ _ (S.allocF _))
theorem k_range3 {n k c : Int} {v : Tok} {Q : Value → Shared → Prop} (hc : c ≠ 0) (hp : Builtin.divisionGoesByPylong (k - n) c = false)
    (h : ∀ r t1 t2 t3 s, Fs B L m mu (fz.add r { cls := .type "range", data := .fields #[.int n t1, .int k t2, .int c t3] }) s → Q (.ref r) s) :
    ∀ s, Fs B L m mu fz s → wpAny (model prog w) A (call (.type "range") [.int n t, .int k u, .int c v]) Q E s := fun s S => call_range_3 hc (h _ _ _ _ _ (S.allocF _)) (.inl hp)
theorem k_lenBytes {x : Array UInt8} {Q : Value → Shared → Prop} (hfit : x.size ≤ 1099511627776) (h : ∀ t s, Fs B L m mu fz s → Q (.int x.size t) s) :
    ∀ s, Fs B L m mu fz s → wpAny (model prog w) A (call (.builtin "len") [.bytes x t]) Q E s := fun _ S => len_bytes hfit (h _ _ S.toks)
theorem k_len {l : Addr} {o : Obj} {its : Array Value} {Q : Value → Shared → Prop} (hl : fz l o ∨ (l, o) ∈ mu) (hc : o.cls = .type "list") (n : Nat) (hd : o.data = .seq its n) (hz : its.size ≤ sizeLine) (h : ∀ t s, Fs B L m mu fz s → Q (.int its.size t) s) :
    ∀ s, Fs B L m mu fz s → wpAny (model prog w) A (call (.builtin "len") [.ref l]) Q E s := fun s S => by
  have e : s.heap.get? l = some o := hl.elim S.get S.own
  have hz' : (its.size : Int) < 2 ^ 63 := by
    have : its.size ≤ 16777216 := hz
    omega
  exact call_len_list ⟨o, e, hc, n, hd⟩ hz' (h _ _ S.toks)

-- for over a range
theorem fits_long {x : Int} (h1 : -1000000000 ≤ x) (h2 : x ≤ 1000000000) : Builtin.Range.rangeFitsLong x = true := by
  unfold Builtin.Range.rangeFitsLong; simp; omega
theorem small_up {a b : Int} (ha1 : -1000000 ≤ a) (ha2 : a ≤ 1000000) (hb1 : -1000000 ≤ b) (hb2 : b ≤ 1000000) : Builtin.Range.small a b 1 = true := by
  have e : Builtin.Range.rangeSize a b 1 = if a < b then b - a else 0 := rangeSize_one a b
  unfold Builtin.Range.small
  rw [fits_long (x := a) (by omega) (by omega), fits_long (x := b) (by omega) (by omega), fits_long (x := 1) (by omega) (by omega), fits_long (x := Builtin.Range.rangeSize a b 1) (by rw [e]; split <;> omega) (by rw [e]; split <;> omega)]
  simp only [Bool.true_and]
  rw [if_pos (by decide), fits_long (by omega) (by omega), Bool.or_true]
theorem rangeSize_down (a b : Int) : Builtin.Range.rangeSize a b (-1) = if b < a then a - b else 0 := by
  unfold Builtin.Range.rangeSize
  rw [if_neg (by decide)]
  simp only [Int.neg_neg, Int.ediv_one, gt_iff_lt]
  split <;> omega
theorem small_down {a b : Int} (ha1 : -1000000 ≤ a) (ha2 : a ≤ 1000000) (hb1 : -1000000 ≤ b) (hb2 : b ≤ 1000000) : Builtin.Range.small a b (-1) = true := by
  have e : Builtin.Range.rangeSize a b (-1) = if b < a then a - b else 0 := rangeSize_down a b
  unfold Builtin.Range.small
  rw [fits_long (x := a) (by omega) (by omega), fits_long (x := b) (by omega) (by omega), fits_long (x := -1) (by omega) (by omega), fits_long (x := Builtin.Range.rangeSize a b (-1)) (by rw [e]; split <;> omega) (by rw [e]; split <;> omega)]
  simp only [Bool.true_and]
  rw [if_neg (by decide), fits_long (by omega) (by omega), Bool.or_true]
theorem rangeSize_whole {n : Int} (h : 0 < n) : Builtin.Range.rangeSize 0 n n = 1 := by
  unfold Builtin.Range.rangeSize
  rw [if_pos h, if_pos h, Int.ediv_eq_zero_of_lt (by omega) (by omega)]; rfl
theorem small_whole {n : Int} (h : 0 < n) (h2 : n ≤ 1000000) : Builtin.Range.small 0 n n = true := by
  unfold Builtin.Range.small
  rw [rangeSize_whole h, fits_long (x := 0) (by omega) (by omega), fits_long (x := n) (by omega) (by omega), fits_long (x := 1) (by omega) (by omega)]
  simp only [Bool.true_and]
  rw [if_pos h, fits_long (by omega) (by omega), Bool.or_true]

/-- what a loop's end asks -/
noncomputable abbrev LoopPost (prog : Program) (w : World) (A : Around) (env : Env) (Q : Flow → Shared → Prop) : Result → Shared → Prop := fun r s' => match r with | .ok f => Q f s' | .error e => cameBackBy (model prog w) A env NE e s'
/-- what a turn's end asks -/
noncomputable abbrev TurnPost (B : Bs) (L : Addr) (Q : Flow → Shared → Prop) (J : (Str → Option Value) → Led → Fz → Prop) (ex : Led) (fz₁ : Fz) (f : Flow) (s₂ : Shared) : Prop := match f with
  | .next | .cont => ∃ m₂ mu₂ fz₂, fz₁.le fz₂ ∧ J m₂ mu₂ fz₂ ∧ Fs B L m₂ (mu₂ ++ ex) fz₂ s₂
  | .brk => Q .next s₂
  | .ret v => Q (.ret v) s₂
theorem TurnPost.next {s : Shared} {Q : Flow → Shared → Prop} {J : (Str → Option Value) → Led → Fz → Prop} {ex : Led} {fz₁ : Fz} (S : Fs B L m (mu ++ ex) fz s) (hle : fz₁.le fz) (h : J m mu fz) : TurnPost B L Q J ex fz₁ .next s := ⟨m, mu, fz, hle, h, S⟩

theorem Fs.offNew {s : Shared} (S : Fs B L m mu fz s) : ∀ b ∈ [s.heap.objs.size], b ≠ L ∧ b ∉ mu.map (·.1) ∧ (∀ o, ¬ fz b o) ∧ B.s0.heap.get? b = none := by
  intro b hb
  rw [List.mem_singleton.mp hb]
  refine ⟨Nat.ne_of_gt S.lt, fun hm => ?_, fun o ho => absurd (Heap.lt_size (S.get ho)) (Nat.lt_irrefl _), S.fresh⟩
  obtain ⟨p, hp, e⟩ := List.mem_map.mp hm
  have := Heap.lt_size (S.mus p hp).1
  rw [e] at this
  exact Nat.lt_irrefl _ this
theorem for_range {x : Str} {px : Pos} {body : List Stmt} {Q : Flow → Shared → Prop} {r : Addr} {a b c : Int} {t1 t2 t3 : Tok} {n : Nat}
    (J : Nat → (Str → Option Value) → Led → Fz → Prop) (hr : fz r { cls := .type "range", data := .fields #[.int a t1, .int b t2, .int c t3] }) (hn : Builtin.Range.rangeSize a b c = (n : Int)) (hsm : Builtin.Range.small a b c = true) (hh : A.handled = none)
    (hJ : J 0 m mu fz)
    (turn : ∀ (i : Nat) t m₁ mu₁ fz₁ ex, i < n → fz.le fz₁ → J i m₁ mu₁ fz₁ → ∀ s, Fs B L (upd m₁ x (.int (a + i * c) t)) (mu₁ ++ ex) fz₁ s →
      wpAny (model prog w) A (execs body env) (TurnPost B L Q (J (i + 1)) ex fz₁) NE s)
    (done : ∀ m' mu' fz', fz.le fz' → J n m' mu' fz' → ∀ s, Fs B L m' mu' fz' s → Q .next s)
    (hL : env.locals = L := by rfl) (hk : env.scope.kind = .function := by rfl) (hl : env.kindOf x = some .local := by rfl) :
    ∀ s, Fs B L m mu fz s → wpAny (model prog w) A (pyIter (.ref r)) (fun it s₂ => codeAny (model prog w) A (.forLoop (.Name x px) it body [] env) (LoopPost prog w A env Q) s₂) NE s := fun s S => by
  subst hL
  refine wpAny_pyIter_range (S.get hr) hsm ?_
  rw [hn]
  have W := Walks.range (prog := prog) (w := w) hh s.heap.objs.size a c n
  refine loop_walk W J (by simp) (fun i h hs b hb => ?_) ?_ (S.grow (h' := s.heap.push _) (tk := s.toks) fun _ _ e => Heap.get?_push_of_some _ e) hJ S.offNew (fun b hb => .inl hb) ?_ done hk hl
  · rw [List.mem_singleton.mp hb]; exact ⟨_, hs⟩
  · simp only [Int.ofNat_zero, Int.natCast_zero, Int.zero_mul, Int.add_zero, Int.sub_zero]
    exact Heap.get?_push_size _ rfl
  · rintro i v m₁ mu₁ fz₁ ex hi ⟨t, rfl⟩ hle hJ s S
    exact turn i t m₁ mu₁ fz₁ ex hi hle hJ s S
end
end Mine
end
-- text MX
section
open PySem PySem.W PyProof.Rows PySem.Calls
open Sem (wp)
set_option Elab.async false
namespace Mine

/-- no built-in that holds a bytearray's memory -/
noncomputable def okC : Code → Bool
  | .builtin id _ => !(Builtin.Bytes.decodersThatHold.contains id) && !(["bytearray.__contains__", "bytearray.__mod__", "bytearray.__rmod__", "_struct.pack_into.held", "bytearray.find.held"].contains id)
  | _ => true
noncomputable def Cl (Γ : Ctx) : Prop := ∀ x ∈ Γ.below, okC x.1 = true
/-- as wpAny, where no holder lies on the stack -/
noncomputable def wpX {α : Type} (M : Model) (A : Around) (t : Sem α) (Q : α → Shared → Prop) (E : Value → Shared → Prop) (s : Shared) : Prop :=
  ∀ Γ p, Γ.In A → okC Γ.code = true → Cl Γ → wp M Γ t (fun a _ s' => Q a s') (fun e _ s' => E e s') p s
noncomputable def codeX (M : Model) (A : Around) (c : Code) (R : Result → Shared → Prop) (s : Shared) : Prop :=
  ∀ Γ p, Γ.code = c → Γ.Below A → Cl Γ → wpCode M Γ R p s
section
variable {α β : Type} {M : Model} {A : Around} {E : Value → Shared → Prop} {s : Shared}
theorem wpX_any {t : Sem α} {Q : α → Shared → Prop} (h : wpAny M A t Q E s) : wpX M A t Q E s := fun Γ p hΓ _ _ => h Γ p hΓ
theorem codeX_any {c : Code} {R : Result → Shared → Prop} (h : codeAny M A c R s) : codeX M A c R s := fun Γ p hc hB _ => h Γ p hc hB
theorem wpX_mono {t : Sem α} {Q Q' : α → Shared → Prop} {E' : Value → Shared → Prop} (h : wpX M A t Q E s) (hQ : ∀ a s, Q a s → Q' a s) (hE : ∀ e s, E e s → E' e s) : wpX M A t Q' E' s :=
  fun Γ p hΓ ho hC => Sem.wp_mono M Γ t (fun a _ s => hQ a s) (fun e _ s => hE e s) p s (h Γ p hΓ ho hC)
theorem wpX_pure {a : α} {Q : α → Shared → Prop} (h : Q a s) : wpX M A (pure a) Q E s := fun _ _ _ _ _ => h
theorem wpX_bind {m : Sem α} {f : α → Sem β} {Q : β → Shared → Prop} (h : wpX M A m (fun a s' => wpX M A (f a) Q E s') E s) : wpX M A (m >>= f) Q E s := fun Γ p hΓ ho hC => by
  rw [Sem.wp_bind']
  exact Sem.wp_mono M Γ m (fun a p' s' h' => h' Γ p' hΓ ho hC) (fun _ _ _ h' => h') p s (h Γ p hΓ ho hC)
theorem wpX_holding {vs : List Value} {m : Sem α} {Q : α → Shared → Prop} (h : wpX M A m Q E s) : wpX M A (holding vs m) Q E s :=
  fun Γ p hΓ ho hC => by rw [Sem.wp_holding]; exact h Γ p hΓ ho hC
theorem wpX_keep {vs : List Value} {m : Sem α} {Q : α → Shared → Prop} (h : wpX M A m Q E s) : wpX M A (m.keep vs) Q E s :=
  fun Γ p hΓ ho hC => by rw [Sem.wp_keep]; exact h Γ p hΓ ho hC
theorem wpX_operate {vs : List Value} {m : Sem Value} {Q : Value → Shared → Prop} (h : wpX M A m Q E s) : wpX M A (operate vs m) Q E s :=
  fun Γ p hΓ ho hC => by rw [Sem.wp_operate]; exact h Γ p hΓ ho hC
theorem wpX_standAt {pos : Pos} {Q : Unit → Shared → Prop} (h : Q () s) : wpX M A (standAt pos) Q E s := wpX_any (wpAny_standAt h)
theorem wpX_onRaise {m : Sem α} {k : Value → Sem Unit} {Q : α → Shared → Prop} (h : wpX M A m Q NE s) : wpX M A (m.onRaise k) Q E s := fun Γ p hΓ ho hC => by
  rw [Sem.wp_onRaise]
  exact Sem.wp_mono M Γ m (fun _ _ _ h' => h') (fun e p' s' h' => h'.elim) p s (h Γ p hΓ ho hC)
theorem wpX_run {c : Code} {Q : Flow → Shared → Prop} (hc : codeX M A c (fun r s' => match r with | .ok f => Q f s' | .error e => E e s') s) : wpX M A (run c none) Q E s :=
  fun Γ p hΓ ho hC => by
    rw [Sem.wp_run]
    refine hc _ p rfl (hΓ.enter c none p (by intro x; cases x)) fun x hx => ?_
    rcases List.mem_cons.mp hx with rfl | hx
    · exact ho
    · exact hC x hx
theorem wpX_call {f : Value} {pos : List Value} {Q : Value → Shared → Prop}
    (hc : codeX M A (.call f ⟨pos, []⟩) (fun r s' => match r with | .ok (.ret v) => Q v s' | .ok _ => False | .error e => E e s') s) : wpX M A (call f pos []) Q E s :=
  fun Γ p hΓ ho hC => by
    show wp M Γ (runValue _) _ _ p s
    rw [Sem.wp_runValue]
    refine hc _ p rfl (hΓ.enter _ none p (by intro x; cases x)) fun x hx => ?_
    rcases List.mem_cons.mp hx with rfl | hx
    · exact ho
    · exact hC x hx
theorem codeX_of_tree {c : Code} {R : Result → Shared → Prop} (ho : okC c = true)
    (h : wpX M (A.under c) (M.den c) (fun fin s' => match fin with | .done f => R (.ok f) s' | .again c' => c'.quiet = true ∧ codeX M A c' R s') (fun e s' => R (.error e) s') s) : codeX M A c R s := fun Γ p hc hΓ hC => by
  rw [wpCode_iff_wp, hc]
  refine Sem.wp_mono M Γ _ (fun fin p' s' h' => ?_) (fun _ _ _ h' => h') p s (h Γ p (hc ▸ hΓ.in) (hc ▸ ho) hC)
  cases fin with
  | done f => exact h'
  | again c' => exact ⟨h'.1, h'.2 (Γ.goto c') p' rfl (hΓ.goto c') hC⟩
theorem codeX_loop {c : Code} {R : Result → Shared → Prop} (ho : okC c = true) (hq : c.quiet = true) (I : Nat → Shared → Prop)
    (turn : ∀ n s, I n s → wpX M (A.under c) (M.den c)
      (fun fin s' => match fin with | .done f => R (.ok f) s' | .again c' => (c' = c ∧ ∃ m, m < n ∧ I m s') ∨ (c'.quiet = true ∧ codeX M A c' R s')) (fun e s' => R (.error e) s') s)
    (n : Nat) (h : I n s) : codeX M A c R s := by
  induction n using Nat.strongRecOn generalizing s with
  | ind n ih =>
    refine codeX_of_tree ho (wpX_mono (turn n s h) (fun fin s' hf => ?_) fun _ _ h' => h')
    cases fin with
    | done f => exact hf
    | again c' =>
      rcases hf with ⟨rfl, m, hm, hI⟩ | ⟨h1, h2⟩
      · exact ⟨hq, ih m hm hI⟩
      · exact ⟨h1, h2⟩
theorem codeX_mono {c : Code} {R R' : Result → Shared → Prop} (h : codeX M A c R s) (hR : ∀ r s, R r s → R' r s) : codeX M A c R' s := fun Γ p hc hB hC => wpCode_mono hR (h Γ p hc hB hC)
end

section
variable {M : Model} {A : Around} {E : Value → Shared → Prop} {s : Shared} {env : Env}
theorem X_nil {Q : Flow → Shared → Prop} (h : Q .next s) : wpX M A (execs [] env) Q E s := wpX_any (wpAny_execs_nil h)
theorem X_cons {st rest} {Q : Flow → Shared → Prop} (h : wpX M A (exec st env) (fun f s' => match f with | .next => wpX M A (execs rest env) Q E s' | f => Q f s') E s) : wpX M A (execs (st :: rest) env) Q E s := by
  rw [execs_cons]
  refine wpX_bind (wpX_mono h (fun f s' h' => ?_) fun _ _ x => x)
  cases f with
  | next => exact h'
  | brk => exact wpX_pure h'
  | cont => exact wpX_pure h'
  | ret v => exact wpX_pure h'
theorem wpX_bindName {x : Str} {v : Value} {Q : Unit → Shared → Prop} (h : wpX M A (storeName env x v) Q E s) : wpX M A (bindName env x v) Q E s := fun Γ p hΓ ho hC => by rw [Sem.wp_bindName]; exact h Γ p hΓ ho hC
theorem X_assign {x pos' value pos} {Q : Flow → Shared → Prop} (h : wpX M A (eval value env) (fun v s₁ => wpX M A (storeName env x v) (fun _ => Q .next) E s₁) E s)
    (hs : swapsWith value (some (.Name x pos')) pos.line env = pure false := by rfl) : wpX M A (exec (.Assign [.Name x pos'] value pos) env) Q E s := fun Γ p hΓ ho hC => by
  simp only [exec_Assign_Name env x pos' value pos hs, Sem.wp_bind', Sem.wp_cmd_standAt, Sem.wp_bindName, Sem.wp_pure']
  exact Sem.wp_mono M Γ _ (fun v _ s₁ h₁ => h₁ Γ _ hΓ ho hC) (fun _ _ _ h' => h') _ _ (h Γ _ hΓ ho hC)
theorem X_bin {l op r pos} {Q : Value → Shared → Prop} (h : wpX M A (eval l env) (fun a s₁ => wpX M A (eval r env) (fun b s₂ => wpX M A (binaryOp op a b) Q E s₂) E s₁) E s) : wpX M A (eval (.BinOp l op r pos) env) Q E s := by
  rw [eval_BinOp]
  refine wpX_bind (wpX_mono h (fun a s₁ h₁ => wpX_bind (wpX_holding (wpX_mono h₁ (fun b s₂ h₂ => wpX_bind (wpX_standAt (wpX_operate h₂))) fun _ _ x => x))) fun _ _ x => x)
theorem X_ret {e pos} {Q : Flow → Shared → Prop} (h : wpX M A (eval e env) (fun v => Q (.ret v)) E s) : wpX M A (exec (.Return (some e) pos) env) Q E s := by
  rw [exec_Return_some]
  exact wpX_bind (wpX_standAt (wpX_bind (wpX_mono h (fun v s' h' => wpX_pure h') fun _ _ x => x)))
theorem X_if {test body orelse pos} {Q : Flow → Shared → Prop} (h : wpX M A (isTrue test env (eval test env)) (fun b s₂ => if b then wpX M A (execs body env) Q E s₂ else wpX M A (execs orelse env) Q E s₂) E s) :
    wpX M A (exec (.If test body orelse pos) env) Q E s := by
  rw [exec_If]
  refine wpX_bind (wpX_standAt (wpX_bind (wpX_mono h (fun b s₂ h₂ => ?_) fun _ _ x => x)))
  cases b <;> exact h₂
theorem X_call {func : Expr} {args : List Expr} {pos : Pos} {Q : Value → Shared → Prop}
    (h : wpX M A (eval func env) (fun f s₁ => wpX M A (callWith pos f [] (backTo pos (starEach args env)) []) Q E s₁) E s)
    (he : eval (.Call func args [] pos) env = (do callWith pos (← eval func env) [] (backTo pos (starEach args env)) (backToKw pos (keywordEach [] env))) := by rfl) :
    wpX M A (eval (.Call func args [] pos) env) Q E s := by
  rw [he]; exact wpX_bind h
theorem X_spliced_nil {pos : Pos} {Q : List Value → Shared → Prop} (h : Q [] s) : wpX M A (spliced (backTo pos (starEach [] env))) Q E s := wpX_any (args_nil h)
theorem X_spliced_cons {x : Sem Value} {rest : List (Bool × Sem Value)} {Q : List Value → Shared → Prop}
    (h : wpX M A x (fun v s₁ => wpX M A (spliced rest) (fun vs s₂ => Q (v :: vs) s₂) E s₁) E s) : wpX M A (spliced ((false, x) :: rest)) Q E s := by
  rw [spliced]
  refine wpX_bind (wpX_mono h (fun v s₁ h₁ => ?_) fun _ _ x => x)
  simp only [Bool.false_eq_true, if_false]
  exact wpX_bind (wpX_pure (wpX_bind (wpX_holding (wpX_mono h₁ (fun vs s₂ h₂ => wpX_pure h₂) fun _ _ x => x))))
theorem X_args {e : Expr} {rest : List Expr} {pos : Pos} {Q : List Value → Shared → Prop}
    (h : wpX M A (eval e env) (fun v s₁ => wpX M A (spliced (backTo pos (starEach rest env))) (fun vs s₂ => Q (v :: vs) s₂) E s₁) E s)
    (he : starEach (e :: rest) env = (false, eval e env) :: starEach rest env := by rfl) : wpX M A (spliced (backTo pos (starEach (e :: rest) env))) Q E s := by
  rw [he]; exact X_spliced_cons h
theorem X_list {elts pos} {Q : Value → Shared → Prop} (h : wpX M A (spliced (backTo pos (starEach elts env))) (fun vs s₁ => wpX M A (newList vs) Q E s₁) E s) : wpX M A (eval (.List elts pos) env) Q E s := by
  show wpX M A (do standAt pos; newList (← spliced (backTo pos (starEach elts env)))) Q E s
  exact wpX_bind (wpX_standAt (wpX_bind h))
theorem X_evalArgs {f : Value} {x : Sem Value} {rest : List (Bool × Sem Value)} {Q : Args → Shared → Prop} (h : wpX M A (spliced ((false, x) :: rest)) (fun vs s' => Q ⟨vs, []⟩ s') E s) : wpX M A (evalArgs f true ((false, x) :: rest) []) Q E s := by
  unfold evalArgs
  show wpX M A (spliced ((false, x) :: rest) >>= _) Q E s
  refine wpX_bind (wpX_mono h (fun vs s' h' => ?_) fun _ _ x => x)
  refine wpX_holding ?_
  exact wpX_bind (wpX_pure (wpX_bind (wpX_pure (wpX_pure h'))))
theorem X_callWith_fn {pos : Pos} {a : Addr} {o : Obj} {fd : FuncData} {args : List (Bool × Sem Value)} {Q : Value → Shared → Prop}
    (h : wpX M A (evalArgs (.ref a) true args []) (fun x s₁ => (s₁.heap.get? a = some o ∧ o.data = .func fd) ∧ wpX M A (call (.ref a) x.pos x.kw) Q E s₁) E s) :
    wpX M A (callWith pos (.ref a) [] args []) Q E s := by
  unfold callWith
  refine wpX_bind (wpX_holding (wpX_mono h (fun x s₁ h₁ => wpX_bind (wpX_standAt ?_)) fun _ _ x => x))
  have tail : ∀ {t : Sem Value}, wpX M A t Q E s₁ → wpX M A (t >>= fun r => holding [r] point >>= fun _ => pure r) Q E s₁ :=
    fun ht => wpX_bind (wpX_mono ht (fun r s₂ hr => wpX_any (wpAny_bind (wpAny_holding (wpAny_point (wpAny_pure hr))))) fun _ _ x => x)
  have kp : wpAny M A (keeperOf (.ref a)) (fun k s' => k = .frame ∧ s' = s₁) E s₁ := by
    unfold keeperOf
    refine wpAny_bind (wpAny_load h₁.1.1 ?_)
    rw [h₁.1.2]
    exact wpAny_pure ⟨rfl, rfl⟩
  have h₂ := h₁.2
  cases hs : args.any (·.1) <;> simp only [List.any_nil, Bool.or_false] <;>
    refine wpX_bind (m := keeperOf (.ref a)) (wpX_mono (wpX_any kp) (fun k s' hk => ?_) fun _ _ x => x) <;> obtain ⟨rfl, rfl⟩ := hk
  · dsimp only
    split
    · exact tail h₂
    · refine tail ?_
      unfold callMarked
      exact wpX_keep h₂
  · dsimp only
    refine tail ?_
    unfold callMarked
    exact wpX_keep h₂
end
end Mine
end
-- text MX2
section
open PySem PySem.W PyProof.Rows PySem.Calls
open Sem (wp)
set_option Elab.async false
namespace Mine
section
variable {prog : Program} {w : World} {A : Around} {E : Value → Shared → Prop} {R : Result → Shared → Prop} {s : Shared}

theorem codeX_func {body env}
    (h : wpX (model prog w) (A.deeper env) (execs body env) (fun f s' => R (.ok (.ret (match f with | .ret v => v | _ => .none))) s') NE s) :
    codeX (model prog w) A (.func body env) R s := by
  refine codeX_of_tree rfl ?_
  show wpX _ (A.deeper env) (do point; match ← (execs body env).onRaise (leaving env) with | .ret v => ret v | _ => ret .none) _ _ s
  refine wpX_bind (wpX_any (wpAny_point (wpX_bind (wpX_onRaise (wpX_mono h (fun f s' h' => ?_) fun _ _ h' => h')))))
  cases f <;> exact wpX_pure h'

/-- a call of a plain def, its body where no holder lies on the stack -/
theorem callX_plain {name : Str} {params : Arguments} {body : List Stmt} {scope : Scope}
    {pm cd doc : Value} {a : Addr} {o : Obj} {args : List Value} {binds : List (Str × Value)}
    (hroom : A.depth < recursionLimit) (ho : s.heap.get? a = some o) (hdata : o.data = .func (docDef name params body scope pm cd doc)) (hlim : s.heap.NoLimit) (hcd : s.heap.CodeRec cd name)
    (hbind : bindArgs (docDef name params body scope pm cd doc) ⟨args, []⟩ = pure binds)
    (hloc : ∀ x ∈ binds, scope.names.lookup x.1 = some .local)
    (h : ∀ h₁, Fr s.heap s.heap.objs.size h₁ (fun x => binds.reverse.lookup x) →
      wpX (model prog w) (A.deeper (envOf name scope s.heap.objs.size a cd)) (execs body (envOf name scope s.heap.objs.size a cd))
        (fun f s' => R (.ok (.ret (match f with | .ret v => v | _ => .none))) s') NE
        { s with heap := h₁, toks := s.toks + binds.length })
    (hco : scope.isCoroutine = false) (hgen : scope.isGenerator = false) (hk : scope.kind = .function) (hcell : ∀ x ∈ scope.names, x.2 ≠ .cell) :
    codeX (model prog w) A (.call (.ref a) ⟨args, []⟩) R s := by
  refine codeX_of_tree rfl (wpX_any ?_)
  show wpAny _ A.in1 (callAny (.ref a) ⟨args, []⟩) _ _ s
  simp only [callAny]
  refine wpAny_bind (wpAny_load ho ?_)
  obtain ⟨c, oc, vs, tq, hc, hoc, hdc, hq⟩ := hcd
  have e1 : (docDef name params body scope pm cd doc).scope.isCoroutine = false := hco
  have e2 : (docDef name params body scope pm cd doc).scope.isGenerator = false := hgen
  have e3 : (docDef name params body scope pm cd doc).body = .stmts body := rfl
  have e4 : (docDef name params body scope pm cd doc).code = .ref c := hc
  simp only [hdata, callFunction, e1, e2, e3, e4]
  refine wpAny_bind (m := field (.ref c) 1) (wpAny_field hoc hdc hq (wpAny_bind (wpAny_pure ?_)))
  rw [hbind]
  refine wpAny_bind (wpAny_pure (wpAny_bind (wpAny_newFunctionEnv hcell hloc (fun h₁ hns hsb => ?_) hk)))
  refine wpAny_bind (wpAny_enterFrame (hlim.fresh _ hsb) hroom (wpAny_pure (And.intro rfl ?_)))
  have F : Fr s.heap s.heap.objs.size h₁ (fun x => binds.reverse.lookup x) := ⟨hns, fun b o e => hsb.extBut b o (Nat.ne_of_lt (Heap.lt_size e)) (Heap.get?_push_of_some _ e), Nat.le_refl _⟩
  have := codeX_func (prog := prog) (w := w) (A := A) (R := R) (h h₁ F)
  rw [hc] at this
  exact this
end
section
variable {prog : Program} {w : World} {A : Around} {E : Value → Shared → Prop} {env : Env} {B : Bs} {L : Addr} {m : Str → Option Value} {mu : Led} {fz fz' : Fz} {mg mb : Str → Option Value}
theorem y_any {α : Type} {t : Sem α} {Q : α → Shared → Prop} (h : ∀ s, Fs B L m mu fz s → wpAny (model prog w) A t Q E s) : ∀ s, Fs B L m mu fz s → wpX (model prog w) A t Q E s := fun s S => wpX_any (h s S)
theorem y_nil {Q : Flow → Shared → Prop} (h : ∀ s, Fs B L m mu fz s → Q .next s) : ∀ s, Fs B L m mu fz s → wpX (model prog w) A (execs [] env) Q E s := fun s S => X_nil (h s S)
theorem y_cons {st rest} {Q : Flow → Shared → Prop} (h : ∀ s, Fs B L m mu fz s → wpX (model prog w) A (exec st env) (fun f s' => match f with | .next => wpX (model prog w) A (execs rest env) Q E s' | f => Q f s') E s) :
    ∀ s, Fs B L m mu fz s → wpX (model prog w) A (execs (st :: rest) env) Q E s := fun s S => X_cons (h s S)
theorem y_assign {x pos' value pos} {Q : Flow → Shared → Prop} (h : ∀ s, Fs B L m mu fz s → wpX (model prog w) A (eval value env) (fun v s₁ => wpX (model prog w) A (storeName env x v) (fun _ => Q .next) E s₁) E s)
    (hs : swapsWith value (some (.Name x pos')) pos.line env = pure false := by rfl) : ∀ s, Fs B L m mu fz s → wpX (model prog w) A (exec (.Assign [.Name x pos'] value pos) env) Q E s := fun s S => X_assign (h s S) hs
theorem y_bin {l op r pos} {Q : Value → Shared → Prop} (h : ∀ s, Fs B L m mu fz s → wpX (model prog w) A (eval l env) (fun a s₁ => wpX (model prog w) A (eval r env) (fun b s₂ => wpX (model prog w) A (binaryOp op a b) Q E s₂) E s₁) E s) :
    ∀ s, Fs B L m mu fz s → wpX (model prog w) A (eval (.BinOp l op r pos) env) Q E s := fun s S => X_bin (h s S)
theorem y_ret {e pos} {Q : Flow → Shared → Prop} (h : ∀ s, Fs B L m mu fz s → wpX (model prog w) A (eval e env) (fun v => Q (.ret v)) E s) : ∀ s, Fs B L m mu fz s → wpX (model prog w) A (exec (.Return (some e) pos) env) Q E s := fun s S => X_ret (h s S)
theorem y_if {test body orelse pos} {Q : Flow → Shared → Prop} (h : ∀ s, Fs B L m mu fz s → wpX (model prog w) A (isTrue test env (eval test env)) (fun b s₂ => if b then wpX (model prog w) A (execs body env) Q E s₂ else wpX (model prog w) A (execs orelse env) Q E s₂) E s) :
    ∀ s, Fs B L m mu fz s → wpX (model prog w) A (exec (.If test body orelse pos) env) Q E s := fun s S => X_if (h s S)
theorem y_list {elts pos} {Q : Value → Shared → Prop} (h : ∀ s, Fs B L m mu fz s → wpX (model prog w) A (spliced (backTo pos (starEach elts env))) (fun vs s₁ => wpX (model prog w) A (newList vs) Q E s₁) E s) : ∀ s, Fs B L m mu fz s → wpX (model prog w) A (eval (.List elts pos) env) Q E s := fun s S => X_list (h s S)
theorem y_args {e : Expr} {rest : List Expr} {pos : Pos} {Q : List Value → Shared → Prop}
    (h : ∀ s, Fs B L m mu fz s → wpX (model prog w) A (eval e env) (fun v s₁ => wpX (model prog w) A (spliced (backTo pos (starEach rest env))) (fun vs s₂ => Q (v :: vs) s₂) E s₁) E s)
    (he : starEach (e :: rest) env = (false, eval e env) :: starEach rest env := by rfl) : ∀ s, Fs B L m mu fz s → wpX (model prog w) A (spliced (backTo pos (starEach (e :: rest) env))) Q E s := fun s S => X_args (h s S) he
theorem y_argsNil {pos : Pos} {Q : List Value → Shared → Prop} (h : ∀ s, Fs B L m mu fz s → Q [] s) : ∀ s, Fs B L m mu fz s → wpX (model prog w) A (spliced (backTo pos (starEach [] env))) Q E s := fun s S => X_spliced_nil (h s S)
theorem y_call {func : Expr} {args : List Expr} {pos : Pos} {Q : Value → Shared → Prop}
    (h : ∀ s, Fs B L m mu fz s → wpX (model prog w) A (eval func env) (fun f s₁ => wpX (model prog w) A (callWith pos f [] (backTo pos (starEach args env)) []) Q E s₁) E s)
    (he : eval (.Call func args [] pos) env = (do callWith pos (← eval func env) [] (backTo pos (starEach args env)) (backToKw pos (keywordEach [] env))) := by rfl) :
    ∀ s, Fs B L m mu fz s → wpX (model prog w) A (eval (.Call func args [] pos) env) Q E s := fun s S => X_call (h s S) he
/-- a def's call, its arguments plain -/
theorem y_fn {pos : Pos} {a c k : Nat} {e : Expr} {rest : List Expr} {Q : Value → Shared → Prop} (hf : FnAt B.f0 a c k)
    (h : ∀ s, Fs B L m mu fz s → wpAny (model prog w) A (spliced (backTo pos (starEach (e :: rest) env))) (fun vs s₁ => Fl B.f0 s₁ ∧ wpX (model prog w) A (call (.ref a) vs) Q E s₁) E s)
    (he : starEach (e :: rest) env = (false, eval e env) :: starEach rest env := by rfl) :
    ∀ s, Fs B L m mu fz s → wpX (model prog w) A (callWith pos (.ref a) [] (backTo pos (starEach (e :: rest) env)) []) Q E s := fun s S => by
  obtain ⟨o, pm, doc, ho, hd, _⟩ := hf
  have h' := h s S
  rw [he] at h' ⊢
  exact X_callWith_fn (o := o) (X_evalArgs (wpX_any (wpAny_mono h' (fun vs s₁ h₁ => ⟨⟨h₁.1 _ _ ho, hd⟩, h₁.2⟩) fun _ _ x => x)))
theorem callX_fn {a c k : Nat} {args : List Value} {binds : List (Str × Value)} {Q : Value → Shared → Prop} (Res : Value → Fz → Prop) (T : Tp mg mb fz) (hf : FnAt fz a c k) (hA : A.depth < recursionLimit)
    (hbind : ∀ pm doc, bindArgs (docDef (sName (topS k)) (sParams (topS k)) (sBody (topS k)) (sScope (topS k)) pm (.ref c) doc) ⟨args, []⟩ = pure binds)
    (hloc : (binds.all fun x => decide ((sScope (topS k)).names.lookup x.1 = some .local)) = true)
    (hb : ∀ (B' : Bs) (L' : Addr), B'.f0 = fz → B'.fs = L :: B.fs → ∀ s, Fs B' L' (mOf binds) [] fz s →
      wpX (model prog w) (A.deeper (envOf (sName (topS k)) (sScope (topS k)) L' a (.ref c))) (execs (sBody (topS k)) (envOf (sName (topS k)) (sScope (topS k)) L' a (.ref c))) (Ret B' L' Res) NE s)
    (h : ∀ v fz', fz.le fz' → Res v fz' → ∀ s, Fs B L m mu fz' s → Q v s)
    (hco : (sScope (topS k)).isCoroutine = false := by rfl) (hgen : (sScope (topS k)).isGenerator = false := by rfl) (hk : (sScope (topS k)).kind = .function := by rfl)
    (hcell : ∀ x ∈ (sScope (topS k)).names, x.2 ≠ .cell := by decide) :
    ∀ s, Fs B L m mu fz s → wpX (model prog w) A (call (.ref a) args) Q E s := fun s S => by
  obtain ⟨o, pm, doc, ho, hd, oc, vs, t, hoc, hdc, hq⟩ := hf
  refine wpX_call (callX_plain hA (S.get ho) hd (T.noLimit S) ⟨c, oc, vs, t, rfl, S.get hoc, hdc, hq⟩ (hbind pm doc) (locs hloc) (fun h₁ F => ?_) hco hgen hk hcell)
  rw [lookup_mOf] at F
  have S₁ : Fs ⟨s, fz, L :: B.fs⟩ s.heap.objs.size (mOf binds) [] fz { s with heap := h₁, toks := s.toks + binds.length } := by
    refine ⟨rfl, rfl, rfl, F.ns, S.kpCall F.keep, ?_, Fz.le_refl _, fun a o e => ?_, fun p hp => (nomatch hp), List.nodup_nil⟩
    · show s.heap.get? s.heap.objs.size = none
      cases e : s.heap.get? s.heap.objs.size with
      | none => rfl
      | some o => exact absurd (Heap.lt_size e) (Nat.lt_irrefl _)
    · have := S.get e
      exact ⟨F.keep _ _ this, Nat.ne_of_lt (Heap.lt_size this), .inl e⟩
  refine wpX_mono (hb ⟨s, fz, L :: B.fs⟩ _ rfl rfl _ S₁) (fun f s' hr => ?_) fun _ _ x => x.elim
  obtain ⟨v, m', mu', fz', rfl, S', hR⟩ := hr
  exact h v fz' S'.le hR s' (S.back S')

theorem y_while {test body pos} {Q : Flow → Shared → Prop} (I : Nat → (Str → Option Value) → Led → Fz → Prop) (n : Nat) (h0 : I n m mu fz)
    (turn : ∀ n m mu fz, I n m mu fz → ∀ s, Fs B L m mu fz s → wpX (model prog w) A (isTrue test env (eval test env)) (fun b s₂ =>
      if b then wpX (model prog w) A (execs body env) (fun f s₃ => match f with
        | .next | .cont => ∃ n' m' mu' fz', n' < n ∧ I n' m' mu' fz' ∧ Fs B L m' mu' fz' s₃
        | .brk => Q .next s₃
        | .ret v => Q (.ret v) s₃) NE s₂
      else Q .next s₂) NE s) :
    ∀ s, Fs B L m mu fz s → wpX (model prog w) A (exec (.While test body [] pos) env) Q NE s := fun s S => by
  rw [exec_While]
  refine wpX_bind (wpX_standAt ?_)
  unfold runOwn
  refine wpX_onRaise (wpX_run (codeX_loop rfl rfl (fun n s => ∃ m mu fz, I n m mu fz ∧ Fs B L m mu fz s) (fun n s hI => ?_) n ⟨m, mu, fz, h0, S⟩))
  obtain ⟨m, mu, fz, hI, S⟩ := hI
  show wpX _ A ((whileTurn test body [] env).onRaise (fun x => do noteFrame x env; theTreesLotGoes x)) _ _ s
  refine wpX_onRaise ?_
  unfold whileTurn
  refine wpX_bind (wpX_mono (turn n m mu fz hI s S) (fun b s₂ h₂ => ?_) fun _ _ x => x)
  cases b with
  | false => exact wpX_bind (X_nil (wpX_pure h₂))
  | true =>
    refine wpX_bind (wpX_mono h₂ (fun f s₃ h₃ => ?_) fun _ _ x => x)
    cases f with
    | next => obtain ⟨n', m', mu', fz', hlt, hI', S'⟩ := h₃; exact wpX_pure (.inl ⟨rfl, n', hlt, m', mu', fz', hI', S'⟩)
    | cont => obtain ⟨n', m', mu', fz', hlt, hI', S'⟩ := h₃; exact wpX_pure (.inl ⟨rfl, n', hlt, m', mu', fz', hI', S'⟩)
    | brk => exact wpX_pure h₃
    | ret v => exact wpX_pure h₃
theorem y_for0 {target iter body pos} {Q : Flow → Shared → Prop}
    (h : ∀ s, Fs B L m mu fz s → wpX (model prog w) A (eval iter env) (fun x s₁ => wpX (model prog w) A (pyIter x) (fun it s₂ =>
      codeX (model prog w) A (.forLoop target it body [] env) (fun r s' => match r with | .ok f => Q f s' | .error _ => False) s₂) NE s₁) NE s)
    (hs : ∀ x, foldedSetIterable iter env x = pure x := by intro _; rfl) :
    ∀ s, Fs B L m mu fz s → wpX (model prog w) A (exec (.For target iter body [] pos) env) Q NE s := fun s S => by
  rw [exec_For]
  refine wpX_bind (wpX_standAt (wpX_bind (wpX_mono (h s S) (fun x s₁ h₁ => ?_) fun _ _ x => x)))
  rw [hs]
  refine wpX_bind (wpX_pure (wpX_bind (wpX_standAt (wpX_bind (wpX_holding (wpX_mono h₁ (fun it s₂ h₂ => ?_) fun _ _ x => x))))))
  unfold runOwn
  exact wpX_onRaise (wpX_run (codeX_mono h₂ fun r s' hr => by cases r <;> exact hr))
end
end Mine
end
-- text MX3
section
open PySem PySem.W PyProof.Rows PySem.Calls
open Sem (wp)
set_option Elab.async false
namespace Mine
section
variable {prog : Program} {w : World} {A : Around} {E : Value → Shared → Prop} {env : Env} {B : Bs} {L : Addr} {m : Str → Option Value} {mu : Led} {fz fz' : Fz} {mg mb : Str → Option Value}
theorem loopX_walk {x : Str} {px : Pos} {body : List Stmt} {Q : Flow → Shared → Prop} {I : Addr} {fp wr : List Addr} {n : Nat} {P : Nat → Value → Prop} {SI : Nat → Heap → Prop} {s : Shared}
    (W : Walks prog w A I fp wr n P SI) (J : Nat → (Str → Option Value) → Led → Fz → Prop) (nd : wr.Nodup) (live : ∀ i h, SI i h → ∀ b ∈ wr, ∃ o, h.get? b = some o)
    (h0 : SI 0 s.heap) (S : Fs B env.locals m mu fz s) (hJ : J 0 m mu fz)
    (off : ∀ b ∈ wr, b ≠ env.locals ∧ b ∉ mu.map (·.1) ∧ (∀ o, ¬ fz b o) ∧ B.s0.heap.get? b = none) (hfp : ∀ b ∈ fp, b ∈ wr ∨ ∃ o, fz b o)
    (turn : ∀ i v m₁ mu₁ fz₁ ex, i < n → P i v → fz.le fz₁ → J i m₁ mu₁ fz₁ → ∀ s, Fs B env.locals (upd m₁ x v) (mu₁ ++ ex) fz₁ s →
      wpX (model prog w) A (execs body env) (TurnPost B env.locals Q (J (i + 1)) ex fz₁) NE s)
    (done : ∀ m' mu' fz', fz.le fz' → J n m' mu' fz' → ∀ s, Fs B env.locals m' mu' fz' s → Q .next s)
    (hk : env.scope.kind = .function := by rfl) (hl : env.kindOf x = some .local := by rfl) :
    codeX (model prog w) A (.forLoop (.Name x px) (.ref I) body [] env) (fun r s' => match r with | .ok f => Q f s' | .error _ => False) s := by
  refine codeX_loop rfl rfl (fun k s' => ∃ i m' mu' fz', k = n + 1 - i ∧ i ≤ n ∧ SI i s'.heap ∧ fz.le fz' ∧ J i m' mu' fz' ∧ Fs B env.locals m' mu' fz' s' ∧
      (∀ b ∈ wr, b ≠ env.locals ∧ b ∉ mu'.map (·.1) ∧ (∀ o, ¬ fz' b o) ∧ B.s0.heap.get? b = none)) ?_ (n + 1) ⟨0, m, mu, fz, rfl, Nat.zero_le _, h0, Fz.le_refl _, hJ, S, off⟩
  rintro k s' ⟨i, m', mu', fz', rfl, hi, hSI, hle, hJ', S', off'⟩
  show wpX _ A ((forTurn (.Name x px) (.ref I) body [] env).onRaise (fun x => do noteFrame x env; theTreesLotGoes x)) _ _ s'
  refine wpX_onRaise ?_
  unfold forTurn
  refine wpX_bind (wpX_standAt (wpX_bind (wpX_onRaise ?_)))
  by_cases hlt : i < n
  · refine wpX_any (W.item i s' _ _ hlt hSI fun v h₁ tk hP hS₁ hk₁ => ?_)
    have S₁ : Fs B env.locals m' mu' fz' { s' with heap := h₁, toks := tk } := S'.but hk₁ off'
    obtain ⟨ex, eex, hex⟩ := led_of (live _ _ hS₁)
    have S₂ := S₁.with eex nd hex off'
    refine wpX_bind (wpX_pure (wpX_bind (wpX_any (wpAny_assign_Name (store (hL := rfl) (fun s₂ S₃ => wpX_bind (wpX_mono (turn i v m' mu' fz' ex hlt hP hle hJ' s₂ S₃) (fun f s₃ h₃ => ?_) fun _ _ e => e)) hk hl _ S₂)))))
    have fin : (∃ m₂ mu₂ fz₂, fz'.le fz₂ ∧ J (i + 1) m₂ mu₂ fz₂ ∧ Fs B env.locals m₂ (mu₂ ++ ex) fz₂ s₃) → ∃ k', k' < n + 1 - i ∧ ∃ i m' mu' fz', k' = n + 1 - i ∧ i ≤ n ∧ SI i s₃.heap ∧ fz.le fz' ∧ J i m' mu' fz' ∧ Fs B env.locals m' mu' fz' s₃ ∧
      (∀ b ∈ wr, b ≠ env.locals ∧ b ∉ mu'.map (·.1) ∧ (∀ o, ¬ fz' b o) ∧ B.s0.heap.get? b = none) := by
      rintro ⟨m₂, mu₂, fz₂, hle₂, hJ₂, S₄⟩
      refine ⟨n + 1 - (i + 1), by omega, i + 1, m₂, mu₂, fz₂, rfl, hlt, ?_, Fz.le_trans hle hle₂, hJ₂, S₄.sub (List.sublist_append_left ..), S₄.offOf eex⟩
      refine W.frame _ _ _ hS₁ fun b hb o ho => ?_
      rcases hfp b hb with hb | ⟨q, hq⟩
      · rw [← eex] at hb
        obtain ⟨p, hp, rfl⟩ := List.mem_map.mp hb
        have e2 : h₁.get? p.1 = some p.2 := hex p hp
        rw [ho] at e2
        cases e2
        exact S₄.own (List.mem_append.mpr (.inr hp))
      · have e1 : h₁.get? b = some q := S₁.get (hle _ _ hq)
        rw [ho] at e1
        cases e1
        exact S₄.get (hle₂ _ _ (hle _ _ hq))
    cases f with
    | next => exact wpX_pure (.inl ⟨rfl, fin h₃⟩)
    | cont => exact wpX_pure (.inl ⟨rfl, fin h₃⟩)
    | brk => exact wpX_pure h₃
    | ret v => exact wpX_pure h₃
  · have hin : i = n := by omega
    subst hin
    refine wpX_any (W.done s' _ _ hSI fun h₁ tk hk₁ => wpX_pure (.inr ⟨rfl, codeX_any (codeAny_block (wpAny_execs_nil ?_))⟩))
    exact done m' mu' fz' hle hJ' _ (S'.but hk₁ off')
theorem forX_range {x : Str} {px : Pos} {body : List Stmt} {Q : Flow → Shared → Prop} {r : Addr} {a b c : Int} {t1 t2 t3 : Tok} {n : Nat}
    (J : Nat → (Str → Option Value) → Led → Fz → Prop) (hr : fz r { cls := .type "range", data := .fields #[.int a t1, .int b t2, .int c t3] }) (hn : Builtin.Range.rangeSize a b c = (n : Int)) (hsm : Builtin.Range.small a b c = true) (hh : A.handled = none)
    (hJ : J 0 m mu fz)
    (turn : ∀ (i : Nat) t m₁ mu₁ fz₁ ex, i < n → fz.le fz₁ → J i m₁ mu₁ fz₁ → ∀ s, Fs B L (upd m₁ x (.int (a + i * c) t)) (mu₁ ++ ex) fz₁ s →
      wpX (model prog w) A (execs body env) (TurnPost B L Q (J (i + 1)) ex fz₁) NE s)
    (done : ∀ m' mu' fz', fz.le fz' → J n m' mu' fz' → ∀ s, Fs B L m' mu' fz' s → Q .next s)
    (hL : env.locals = L := by rfl) (hk : env.scope.kind = .function := by rfl) (hl : env.kindOf x = some .local := by rfl) :
    ∀ s, Fs B L m mu fz s → wpX (model prog w) A (pyIter (.ref r)) (fun it s₂ => codeX (model prog w) A (.forLoop (.Name x px) it body [] env) (fun r s' => match r with | .ok f => Q f s' | .error _ => False) s₂) NE s := fun s S => by
  subst hL
  refine wpX_any (wpAny_pyIter_range (S.get hr) hsm ?_)
  rw [hn]
  have W := Walks.range (prog := prog) (w := w) hh s.heap.objs.size a c n
  refine loopX_walk W J (by simp) (fun i h hs b hb => ?_) ?_ (S.grow (h' := s.heap.push _) (tk := s.toks) fun _ _ e => Heap.get?_push_of_some _ e) hJ S.offNew (fun b hb => .inl hb) ?_ done hk hl
  · rw [List.mem_singleton.mp hb]; exact ⟨_, hs⟩
  · simp only [Int.ofNat_zero, Int.natCast_zero, Int.zero_mul, Int.add_zero, Int.sub_zero]
    exact Heap.get?_push_size _ rfl
  · rintro i v m₁ mu₁ fz₁ ex hi ⟨t, rfl⟩ hle hJ s S
    exact turn i t m₁ mu₁ fz₁ ex hi hle hJ s S
end
end Mine
end
-- text MHead
section
open PySem PySem.W PyProof.Rows PySem.Calls PySem.Spec
open Sem (wp)
set_option Elab.async false
set_option maxRecDepth 100000
namespace Mine

theorem threadX {prog : Program} {w : World} {t : Sem Fin} {s : Shared} {R : Result → Shared → Prop} (hreg : s.asleep)
    (h : wpX (model prog w) callerA t (fun fin s' => ∃ f, fin = .done f ∧ (R (.ok f) s' ∧ leftWithCleanup s'.gens = false)) (fun e s' => R (.error e) s' ∧ leftWithCleanup s'.gens = false) s) :
    ∃ n r s' s'', runN (denote table) prog w n s ⟨t, .builtin "claim.caller" {}, default, []⟩ = .halted (outcomeOf r) s' ∧
      schedN (denote table) prog w n (.single s ⟨t, .builtin "claim.caller" {}, default, []⟩) = .halted (outcomeOf r) s' ∧ s'.forget = s''.forget ∧ R r s'' := by
  have h0 := h ⟨.builtin "claim.caller" {}, none, none, [], none⟩ default caller_in (by decide +kernel) (fun _ hx => nomatch hx)
  have h1 := Sem.wp_mono (model prog w) ⟨.builtin "claim.caller" {}, none, none, [], none⟩ t (post' := Sem.finPost (model prog w) ⟨.builtin "claim.caller" {}, none, none, [], none⟩ fun r s' => R r s' ∧ leftWithCleanup s'.gens = false)
    (fun fin p s' hf => by obtain ⟨f, rfl, hR⟩ := hf; exact hR) (fun _ _ _ x => x) _ _ h0
  obtain ⟨n, r, s₁, s₂, hs, hn, hfo, hR⟩ := wp_halts_full (M := model prog w) (R := R) hreg h1
  exact ⟨n, r, s₂, s₁, hn, hs, hfo, hR⟩

theorem callFromX {c : ClaimW} {tree : List Value → Sem Fin} {w : World} {s : Shared} {free : Addr → Prop} {gens : Prop} {kept : Heap → Prop} (hz : s.asleep) (hgens : s.gens = #[])
    (spec : ∀ args, c.pre args = true → WData.layableAll args = true → ∀ ord : List DictEntry → List DictEntry, (∀ l, (ord l).Perm l) →
      ∃ vs s₁, layAllW c.records (classAt s.heap) w.params ord args s = some (vs, s₁) ∧
        wpX (model c.prog w) callerA (tree vs) (fun fin s' => ∃ f, fin = .done f ∧ (c.Ends s args vs s₁ (.ok f) s' ∧ s'.os = s.os ∧ AllBare s'.gens ∧ kept s'.heap))
          (fun e s' => c.Ends s args vs s₁ (.error e) s' ∧ s'.os = s.os ∧ AllBare s'.gens ∧ kept s'.heap) s₁) :
    c.CallFrom (fun vs => ⟨tree vs, .builtin "claim.caller" {}, default, []⟩) w free gens kept s := by
  intro args hpre hlay ord hord
  obtain ⟨vs, s₁, hlaid, hrunX⟩ := spec args hpre hlay ord hord
  have rest := layAllW_rest _ _ _ hlaid
  have hrunX' := wpX_mono (Q' := fun fin s' => ∃ f, fin = .done f ∧ ((c.Ends s args vs s₁ (.ok f) s' ∧ s'.os = s.os ∧ kept s'.heap) ∧ leftWithCleanup s'.gens = false))
    (E' := fun e s' => (c.Ends s args vs s₁ (.error e) s' ∧ s'.os = s.os ∧ kept s'.heap) ∧ leftWithCleanup s'.gens = false) hrunX
    (fun fin s' h => by obtain ⟨f, e, h1, h2, h3, h4⟩ := h; exact ⟨f, e, ⟨h1, h2, h4⟩, leftWithCleanup_false_of_bare h3⟩)
    (fun e s' h => by obtain ⟨h1, h2, h3, h4⟩ := h; exact ⟨⟨h1, h2, h4⟩, leftWithCleanup_false_of_bare h3⟩)
  obtain ⟨k, r, s', s'', hrun, hsched, hfo, hends, hos, hkp⟩ := threadX (R := fun r s' => c.Ends s args vs s₁ r s' ∧ s'.os = s.os ∧ kept s'.heap) (Shared.asleep_of_life rest.2.2.2 hz) hrunX'
  obtain ⟨eh, _, _, eo, _⟩ := Shared.forget_eq hfo
  have hends := hends.congr eh
  have hkp : kept s'.heap := by first | exact eh ▸ hkp | (rw [eh] at hkp; exact hkp) | (rw [← eh] at hkp; exact hkp)
  rw [← eo] at hos
  have hlife : s'.heap.life = s.heap.life := (runN_life _ _ _ hrun).trans rest.2.2.2
  refine ⟨vs, s₁, hlaid, k, _, s', hsched, ?_, (fun _ i x hx => by rw [hgens] at hx; simp at hx), hkp, by rw [hlife], Shared.rest_eq hos⟩
  rcases hends with ⟨v, rfl, d1, d2, d3, d4, d5⟩ | ⟨e, ob, cls, rfl, d1, d2, d3, d4, d5⟩
  · exact .inl ⟨v, rfl, d1, d2, d3, fun b o y _ => d4 b o y, d5⟩
  · exact .inr ⟨e, ob, cls, rfl, d1, d2, d3, d4, fun b o y _ => d5 b o y⟩

/-- what is asked of the call: as the library's, where no holder lies on the stack -/
noncomputable abbrev WalkM (q : Program) (loose : List Str) (XP : (Str → Option Value) → Heap → Prop) (YP : World → Heap → Prop) (r : RowW) (d : DefRec) (kwd : List (Str × Expr)) : Prop :=
  ∀ (w : World) (s₀ s₁ : Shared) (mg mb : Str → Option Value), Ground q loose r.records XP w s₀ mg mb s₁.heap → YP w s₁.heap → ∀ (a : Addr) (o : Obj) (pm cd doc dV kV : Value), s₁.heap.get? a = some o →
    o.data = .func { docDef d.name d.params d.body d.scope pm cd doc with defaults := dV, kwdefaults := kV } → s₁.heap.CodeRec cd d.name → Dflts mg s₁.heap d.params kwd dV kV → mg d.name = some (.ref a) → s₁.gens = #[] →
    ∀ (args : List WData) (vals : List Value) (as : List Addr), r.claim.pre args = true → WData.layableAll args = true → ReadsAllW r.records (classAt s₀.heap) s₁.heap vals args as → WellAll w.params s₁.heap vals args → (∀ a ∈ as, (a == sysModules) = false) →
      wpX (model r.prog w) callerA (call (.ref a) vals) (fun v s' => GoodWG r.claim (classAt s₀.heap) (ExcName.means s₀.heap) args s₁ (.ok (.ret v)) s')
        (fun e s' => GoodWG r.claim (classAt s₀.heap) (ExcName.means s₀.heap) args s₁ (.error e) s') s₁

theorem holds_own {r : OpenRow} {q : Program} {loose : List Str} {Xt : Shared → Bool} {XP : (Str → Option Value) → Heap → Prop} {α : Type} {Yf : Shared → α} {Ya : World → α} {YP : World → Heap → Prop} {d : DefRec} {kwd : List (Str × Expr)} {N : Nat}
    (left : LeftO r.prog q loose Xt Yf Ya N) (hY : ∀ w s, Yf s = Ya w → YP w s.heap) (hYk : ∀ w h h', YP w h → (∀ b o, h.get? b = some o → h'.get? b = some o) → YP w h')
    (hX : ∀ s, Xt s = true → XP (s.heap.nsMap mainGlobals) s.heap) (hXk : ∀ mg h h', XP mg h → (∀ b o, h.get? b = some o → h'.get? b = some o) → XP mg h')
    (hdef : defOf q r.name = some (d, kwd)) (hp : r.prog.theDef r.name = some (d.params, d.body, d.scope)) (hk : kwWritten? d.params.kwonlyargs d.params.kw_defaults = some kwd) (hRf : ∀ s, Xt s = true → RecFacts r.records s.heap) (hwr : (!r.writes || r.records.isEmpty) = true)
    (k1 : r.wellSaid = true) (ok : (chainsOk q && opensWell r.prog && (frees r.toRowW && r.within.isEmpty)) = true) (hb : r.prog.bare) (hw : r.toRowW.promised)
    (walk : WalkM q loose XP YP r.toRowW d kwd) : r.Holds := by
  obtain ⟨ok1, ok2⟩ := Bool.and_eq_true_iff.mp ok
  obtain ⟨hch, o1⟩ := Bool.and_eq_true_iff.mp ok1
  obtain ⟨ok3, ok4⟩ := Bool.and_eq_true_iff.mp ok2
  obtain ⟨hsame, hu, ha, hap, hm⟩ := frees_parts ok3
  have hwi : r.toRowW.claim.within = [] := List.isEmpty_iff.mp ok4
  refine ⟨k1, hw, ⟨⟨hb, o1, by show r.makers.map _ = []; rw [hm]; rfl⟩, hw.witness, fun w => ⟨(left.behind hX hch w).1, fun s' hs' => ?_⟩⟩⟩
  obtain ⟨s₀, hf, hg0, s, hT, hz, hgens, hg, G00, y⟩ := (left.behind (XP := fun mg h => XP mg h ∧ RecFacts r.records h) (fun s hs => ⟨hX s hs, hRf s hs⟩) hch w).2 s' hs'
  have G0 : Ground q loose [] XP w s (s.heap.nsMap mainGlobals) (s.heap.nsMap builtinsNs) s.heap := ⟨G00.T, G00.B, G00.D, G00.TE, G00.TD, G00.W, G00.X.1, G00.cls, G00.has, G00.apart, G00.once, G00.K⟩
  have RF := G00.X.2
  refine ⟨s₀, hf, hg0, s, hT, fun n hn => ?_, RF.1, RF.2.1, ?_⟩
  · obtain rfl : n = r.name := by split at hn <;> simp_all
    exact pinned_of_view hg G0 hdef hp hk
  have hgens : s.gens = #[] := Array.eq_empty_of_size_eq_zero (beq_iff_eq.mp hgens)
  have G : Ground q loose r.records XP w s _ _ s.heap := RF.ground G0
  refine callFromX (c := r.toRowW.claim) (tree := fun vs => do match ← nsGet mainNs r.name with
      | some f => do ret (← PySem.call f vs)
      | none => unsupported "claim.caller:no-such-global") hz hgens fun args hpre hlay ord hord => ?_
  obtain ⟨⟨vs, s₁⟩, hlaid⟩ := Option.isSome_iff_exists.mp (layAllW_isSome (P := w.params) (ord := ord) G.has args r.args s (pre_splitW hpre).1)
  have keeps := layAllW_keeps _ _ _ hlaid
  have rest := layAllW_rest _ _ _ hlaid
  obtain ⟨as, hrd, hin, hold⟩ := reads_layAllW hord _ _ _ hlaid hlay s₁.heap (fun _ _ e => e)
  have Ld : Laid r.records w s s₁ args vs as := ⟨⟨ord, hord, hlaid⟩, hrd, hin, hold, keeps, rest.1.trans hgens, rest.2.2.1⟩
  have G₁ := G.keeps hXk keeps
  obtain ⟨a, o, pm, cd, doc, dV, kV, h1, h2, h3, h4, h5⟩ := G₁.fn hdef
  have h := walk w s s₁ _ _ G₁ (hYk _ _ _ (hY w s y) keeps) a o pm cd doc dV kV h2 h3 h4 h5 (defOf_name hdef ▸ h1) Ld.gens args vs as hpre hlay Ld.reads Ld.well (Ld.low G.low)
  have hi := ident_freeW hu ha hap
  refine ⟨vs, s₁, hlaid, ?_⟩
  refine wpX_bind (wpX_any (wpAny_nsGet G₁.T.g ?_))
  rw [h1]
  refine wpX_bind (wpX_mono h (fun v s' g => wpX_pure ⟨_, rfl, ?_⟩) fun e s' g => ?_)
  · have z := g.laid (c := r.toRowW.claim) hsame hwi hi Ld
    exact ⟨z.1, z.2.1, z.2.2, fun q => ⟨namesKept_of hT hg _ keeps g.2.1.old, noTable hwr q⟩⟩
  · have z := g.laid (c := r.toRowW.claim) hsame hwi hi Ld
    exact ⟨z.1, z.2.1, z.2.2, fun q => ⟨namesKept_of hT hg _ keeps g.2.1.old, noTable hwr q⟩⟩
end Mine
end
-- text MHd
section
open PySem PySem.W PyProof.Rows PySem.Calls
set_option Elab.async false
set_option maxRecDepth 100000
set_option maxHeartbeats 8000000
namespace Mine
/-- the text by its last def alone -/
noncomputable def q0 : Program := view PySem.Challenge.pw_oy0012_01 [24]
noncomputable def loose0 : List Str := [Str.ofString "_wall", Str.ofString "__name__", Str.ofString "unorderable_list_difference", Str.ofString "_buffer", Str.ofString "_truth", Str.ofString "_B64", Str.ofString "b2a_base64", Str.ofString "b64encode", Str.ofString "_urlsafe_encode_translation", Str.ofString "urlsafe_b64encode", Str.ofString "_byteswap", Str.ofString "_law_written", Str.ofString "_law_signs", Str.ofString "_law_reached", Str.ofString "_law_rows", Str.ofString "_law_pairs", Str.ofString "_law_told", Str.ofString "_law_further", Str.ofString "_law_are", Str.ofString "_law_walk"]
noncomputable def sPos : Stmt → Pos | .FunctionDef _ _ _ _ _ _ _ _ _ p => p | _ => ⟨0, 0, 0, 0⟩
noncomputable def dLaw : DefRec := ⟨sName (topS 24), sParams (topS 24), sBody (topS 24), sScope (topS 24), sPos (topS 24)⟩
noncomputable def fnSeen (h : Heap) (a : Addr) : Option FuncData := match h.get? a with
  | some o => match o.data with
    | .func f => some { f with pyModule := .none, doc := .none }
    | _ => none
  | none => none
noncomputable def codeSeen (h : Heap) (c : Addr) : Option Str := match h.get? c with
  | some o => match o.data with
    | .fields vs => match (vs : Array Value)[1]? with
      | some (Value.str q _) => some q
      | _ => none
    | _ => none
  | none => none
/-- where the defs lie: a def, its code, its place in the text, its defaults -/
noncomputable def dfs : List (Addr × Addr × Nat × Value × Value) := [(28, 27, 2, .none, .none), (35, 34, 4, .none, .none), (42, 41, 5, .none, .none), (50, 49, 7, .none, .ref 43), (58, 57, 9, .ref 51, .none), (65, 64, 11, .none, .none), (72, 71, 13, .none, .none), (77, 76, 15, .none, .none), (82, 81, 16, .none, .none), (89, 88, 17, .none, .none), (94, 93, 18, .none, .none), (99, 98, 19, .none, .none), (106, 105, 20, .none, .none), (113, 112, 21, .none, .none), (118, 117, 22, .none, .none), (123, 122, 23, .none, .none), (128, 127, 24, .none, .none)]
/-- the names of the text, as the top leaves them; built-in names that it does not hide -/
noncomputable def nm : List (Str × Option Value) := (gl.map fun p => (p.1, some p.2)) ++ (bt.map fun p => (p.1, none)) ++ [(Str.ofString "_B64", some (.bytes B64.toArray 224)), (Str.ofString "_urlsafe_encode_translation", some (.bytes UT.toArray 254)), (Str.ofString "law", some (.ref 128))]
noncomputable def nsSeen (h : Heap) : Option (List (Option Value)) := match h.get? mainGlobals with
  | some o => match o.data with
    | .dict es _ => some (nm.map fun p => nsFind es p.1)
    | _ => none
  | none => none
noncomputable def yObs (s : Shared) := (dfs.map fun d => (fnSeen s.heap d.1, codeSeen s.heap d.2.1), s.heap.get? 51, nsSeen s.heap)
noncomputable def yVal (_ : World) := (dfs.map fun d => (some (fdOf d.2.2.1 .none (.ref d.2.1) .none d.2.2.2.1 d.2.2.2.2), some (sName (topS d.2.2.1))), some ({ cls := .type "tuple", data := .seq #[.none] } : Obj), some (nm.map (·.2)))
/-- the names lie in the text's own dict -/
noncomputable def NmAt (h : Heap) : Prop := ∃ o es ep, h.get? mainGlobals = some o ∧ o.data = .dict es ep ∧ ∀ p ∈ nm, nsFind es p.1 = p.2
noncomputable def Ys (_ : World) (h : Heap) : Prop := (∀ d ∈ dfs, FnAtD (fun a o => h.get? a = some o) d.1 d.2.1 d.2.2.1 d.2.2.2.1 d.2.2.2.2) ∧ h.get? 51 = some { cls := .type "tuple", data := .seq #[.none] } ∧ NmAt h
theorem fn_seen {h : Heap} {a c : Addr} {k : Nat} {dV kV : Value} (e : fnSeen h a = some (fdOf k .none (.ref c) .none dV kV)) (e' : codeSeen h c = some (sName (topS k))) : FnAtD (fun a o => h.get? a = some o) a c k dV kV := by
  unfold fnSeen at e
  unfold codeSeen at e'
  split at e
  case h_2 => cases e
  rename_i o ho
  split at e
  case h_2 => cases e
  rename_i f hf
  split at e'
  case h_2 => cases e'
  rename_i o' ho'
  split at e'
  case h_2 => cases e'
  rename_i vs hvs
  split at e'
  case h_2 => cases e'
  rename_i q t hq
  cases e'
  refine ⟨o, f.pyModule, f.doc, ho, ?_, o', vs, t, ho', hvs, hq⟩
  exact hf.trans (congrArg Data.func (congrArg (fun g : FuncData => { g with pyModule := f.pyModule, doc := f.doc }) (Option.some.inj e)))
theorem nm_seen {h : Heap} (e : nsSeen h = some (nm.map (·.2))) : NmAt h := by
  unfold nsSeen at e
  split at e
  case h_2 => cases e
  rename_i o ho
  split at e
  case h_2 => cases e
  rename_i es ep hd
  exact ⟨o, es, ep, ho, hd, List.map_inj_left.mp (Option.some.inj e)⟩
theorem ys_of (w : World) (s : Shared) (e : yObs s = yVal w) : Ys w s.heap := by
  refine ⟨fun d hd => ?_, congrArg (fun x => x.2.1) e, nm_seen (congrArg (fun x => x.2.2) e)⟩
  have h1 := List.map_inj_left.mp (show dfs.map (fun d => (fnSeen s.heap d.1, codeSeen s.heap d.2.1)) = dfs.map (fun d => (some (fdOf d.2.2.1 .none (.ref d.2.1) .none d.2.2.2.1 d.2.2.2.2), some (sName (topS d.2.2.1)))) from congrArg Prod.fst e) d hd
  exact fn_seen (congrArg Prod.fst h1) (congrArg Prod.snd h1)
theorem ys_keeps (w : World) (h h' : Heap) (x : Ys w h) (k : ∀ b o, h.get? b = some o → h'.get? b = some o) : Ys w h' := by
  obtain ⟨x1, x2, o, es, ep, h1, h2⟩ := x
  refine ⟨fun d hd => ?_, k _ _ x2, o, es, ep, k _ _ h1, h2⟩
  obtain ⟨o, pm, doc, h1, h2, o', vs, t, h3, h4⟩ := x1 d hd
  exact ⟨o, pm, doc, k _ _ h1, h2, o', vs, t, k _ _ h3, h4⟩
theorem nm_of {h : Heap} {mg : Str → Option Value} (x : NmAt h) (G : h.Ns mainGlobals mg) {p : Str × Option Value} (hp : p ∈ nm) : mg p.1 = p.2 := by
  obtain ⟨o, es, ep, h1, h2, h3⟩ := x
  obtain ⟨o', es', ep', g1, g2, _, g3⟩ := G
  rw [h1] at g1
  cases g1
  rw [h2] at g2
  cases g2
  rw [← g3]
  exact h3 p hp
/-- the text run: the kernel steps through its 634 steps -/
theorem left0 : LeftO PySem.Challenge.pw_oy0012_01 q0 loose0 (fun _ => true) yObs yVal 1400 := fun w => by
  unfold openEnds topFrom
  rw [PySem.W.Fast.te14082659384304107361, PySem.W.Fast.te14364793385576792824]
  kernel_rfl
theorem said0 : PySem.Challenge.rw_oy0012_01.wellSaid = true := (congrFun PySem.W.Fast.te9446332074065402090 _).trans (by
  delta PySem.W.Fast.tw9446332074065402090
  repeat' with_reducible refine look_both ?_ ?_
  · delta PySem.W.Fast.tw17960256430627541270
    repeat' with_reducible refine look_both ?_ ?_
    · delta PySem.W.Fast.tw2436336058641802641
      repeat' with_reducible refine look_both ?_ ?_
      · delta PySem.W.Fast.tw12908688711261696721
        repeat' with_reducible refine look_both ?_ ?_
        all_goals decide +kernel
      all_goals decide +kernel
    all_goals decide +kernel
  all_goals decide +kernel)
theorem def0 : defOf q0 PySem.Challenge.rw_oy0012_01.row.name = some (dLaw, []) := by kernel_rfl
theorem the0 : PySem.Challenge.rw_oy0012_01.row.prog.theDef PySem.Challenge.rw_oy0012_01.row.name = some (dLaw.params, dLaw.body, dLaw.scope) := by kernel_rfl
theorem ok0 : (chainsOk q0 && opensWell PySem.Challenge.rw_oy0012_01.row.prog && (frees PySem.Challenge.rw_oy0012_01.row.toRowW && PySem.Challenge.rw_oy0012_01.row.within.isEmpty)) = true := by kernel_rfl
theorem wit0 : PySem.Challenge.rw_oy0012_01.row.toRowW.promised := by w_witness2
theorem hd (walk : WalkM q0 loose0 (fun _ _ => True) Ys PySem.Challenge.rw_oy0012_01.row.toRowW dLaw []) : PySem.Challenge.rw_oy0012_01.Holds :=
  holds_law said0 fun said => holds_own (r := PySem.Challenge.rw_oy0012_01.row) left0 ys_of ys_keeps (fun _ _ => trivial) (fun _ _ _ _ _ => trivial) def0 the0 (by kernel_rfl) (fun s _ => recFacts_of (by rfl)) (by rfl) said ok0 ⟨rfl, rfl, rfl, rfl, rfl, by decide +kernel⟩ wit0 walk
end Mine
end
-- text MBa
section
open PySem PySem.W PyProof.Rows PySem.Calls
open Sem (wp)
set_option Elab.async false
set_option maxRecDepth 100000
namespace Mine
theorem ba_mro : mroOf (.type "bytearray") = pure [.type "bytearray", .type "object"] := by rw [mroOf_type]; kernel_rfl
theorem ba_lookup_new : typeLookup (.type "bytearray") "__new__" = pure (some (.builtin "bytearray.__new__")) := by rw [typeLookup_type, builtinLookup_eq_fast]; kernel_rfl
theorem ba_made : Bind.madeBy (.type "bytearray") = pure (some "bytearray.__new__") := madeBy_type ba_mro ba_lookup_new (by decide +kernel)
theorem ba_slot_init : Slot "bytearray" "__init__" "bytearray.__init__" :=
  .of (owner := "bytearray") (n := "__init__") (by rw [typeLookup_type, builtinLookup_eq_fast]; kernel_rfl) (by decide +kernel) (by decide +kernel) (by decide +kernel)
    (by first | exact .inl (by decide +kernel) | exact .inr (by decide +kernel)) (by rw [isSubtype_type]; kernel_rfl)
theorem ba_slot_setitem : Slot "bytearray" "__setitem__" "bytearray.__setitem__" :=
  .of (owner := "bytearray") (n := "__setitem__") (by rw [typeLookup_type, builtinLookup_eq_fast]; kernel_rfl) (by decide +kernel) (by decide +kernel) (by decide +kernel)
    (by first | exact .inl (by decide +kernel) | exact .inr (by decide +kernel)) (by rw [isSubtype_type]; kernel_rfl)
theorem ba_sub : isSubtype (.type "bytearray") (.type "bytearray") = pure true := by rw [isSubtype_type]; kernel_rfl
theorem ba_typeCall (a : Value) : checkTypeCall "bytearray" ⟨[a], []⟩ = pure () := by kernel_rfl
theorem ba_newCall (a : Value) : checkBuiltinCall "bytearray.__new__" ⟨[.type "bytearray", a], []⟩ = pure () := by kernel_rfl
theorem ba_plain_new : plainId "bytearray.__new__" = true := by decide +kernel
theorem ba_plain_init : plainId "bytearray.__init__" = true := by decide +kernel
theorem ba_entry_new : entryFor table "bytearray.__new__" = some Builtin.«list.__new__» :=
  entryFor_alias (id' := "list.__new__") (by kernel_rfl) (by first | rfl | decide +kernel) (by decide +kernel) (by kernel_rfl)
theorem ba_entry_init : entryFor table "bytearray.__init__" = some Builtin.«bytearray.__init__» := by first | exact entryFor_of_fast (by kernel_rfl) | exact entryFor_of_tree (by kernel_rfl)
theorem ba_entry_setitem : entryFor table "bytearray.__setitem__" = some Builtin.«bytearray.__setitem__» := by first | exact entryFor_of_fast (by kernel_rfl) | exact entryFor_of_tree (by kernel_rfl)
theorem ba_args_init (a b : Value) : argsOk "bytearray.__init__" ⟨[a, b], []⟩ := by unfold argsOk; kernel_rfl
theorem ba_args_setitem (a b c : Value) : argsOk "bytearray.__setitem__" ⟨[a, b, c], []⟩ := by unfold argsOk; kernel_rfl
theorem ba_bind (v : Value) : Builtin.Bytes.bindOptional "bytearray.__init__" "bytearray" ["source", "encoding", "errors"] [v] [] = pure [some v, none, none] := by kernel_rfl
theorem ba_no_release : typeLookup (.type "bytearray") "__release_buffer__" = pure (some (.builtin "bytearray.__release_buffer__")) := by rw [typeLookup_type, builtinLookup_eq_fast]; kernel_rfl
theorem ba_buffer : typeLookup (.type "bytearray") "__buffer__" = pure (some (.builtin "bytearray.__buffer__")) := by rw [typeLookup_type, builtinLookup_eq_fast]; kernel_rfl
theorem ba_no_bytes : typeLookup (.type "bytearray") "__bytes__" = pure none := by rw [typeLookup_type, builtinLookup_eq_fast]; kernel_rfl
theorem ba_no_index : typeLookup (.type "bytearray") "__index__" = pure none := by rw [typeLookup_type, builtinLookup_eq_fast]; kernel_rfl
theorem ba_mutable : ("bytearray.__release_buffer__".endsWith ("." ++ "__release_buffer__")) = true := by decide +kernel
set_option maxRecDepth 1000000 in
set_option maxHeartbeats 4000000 in
theorem owner_ba_new : ("bytearray.__new__".splitOn ".__new__").headD "" = "bytearray" := by first | decide +kernel | simp +decide [String.splitOn, String.splitOnAux]

theorem exported_one (self : Value) (c : Code) (p : Pos) (h : okC c = true) : (match ((c, p) : Code × Pos) with
    | (.builtin "bytearray.__contains__" ⟨v :: _, _⟩, _) | (.builtin "bytearray.__mod__" ⟨v :: _, _⟩, _)
    | (.builtin "bytearray.__rmod__" ⟨_ :: v :: _, _⟩, _) | (.builtin "_struct.pack_into.held" ⟨v :: _, _⟩, _) => Builtin.Bytes.sameRef v self
    | (.builtin "bytearray.find.held" ⟨_ :: _ :: held, _⟩, _) => held.any (Builtin.Bytes.sameRef self)
    | (.builtin id ⟨v :: _, _⟩, _) => Builtin.Bytes.sameRef v self && Builtin.Bytes.decodersThatHold.contains id
    | _ => false) = false := by
  cases c with
  | builtin id args =>
    have h1 : id ≠ "bytearray.__contains__" := fun e => by subst e; exact absurd h (by simp only [okC]; decide +kernel)
    have h2 : id ≠ "bytearray.__mod__" := fun e => by subst e; exact absurd h (by simp only [okC]; decide +kernel)
    have h3 : id ≠ "bytearray.__rmod__" := fun e => by subst e; exact absurd h (by simp only [okC]; decide +kernel)
    have h4 : id ≠ "_struct.pack_into.held" := fun e => by subst e; exact absurd h (by simp only [okC]; decide +kernel)
    have h5 : id ≠ "bytearray.find.held" := fun e => by subst e; exact absurd h (by simp only [okC]; decide +kernel)
    have h6 : Builtin.Bytes.decodersThatHold.contains id = false := by
      simp only [okC] at h
      rw [Bool.and_eq_true, Bool.not_eq_true'] at h
      exact h.1
    obtain ⟨l, kw⟩ := args
    delta exported_one.match_1
    show dite (id = "bytearray.__contains__") _ _ = false
    rw [dif_neg h1, dif_neg h2, dif_neg h3, dif_neg h4, dif_neg h5]
    cases l with
    | nil => rfl
    | cons v l =>
      show (_ && Builtin.Bytes.decodersThatHold.contains id) = false
      rw [h6, Bool.and_false]
  | _ => rfl
section
variable {α : Type} {M : Model} {A : Around} {E : Value → Shared → Prop} {s : Shared}
theorem exported_X {self : Value} {Q : Bool → Shared → Prop} (h : Q false s) : wpX M A (Builtin.Bytes.exported self) Q E s := fun Γ p hΓ ho hC => by
  unfold Builtin.Bytes.exported
  show wp M Γ (stack >>= _) _ _ p s
  unfold stack
  rw [Sem.wp_bind', Sem.wp_stack]
  simp only [Sem.wp_pure, Sem.wp_pure']
  have e : List.any ((Γ.code, p) :: Γ.below) (fun x => match x with
    | (.builtin "bytearray.__contains__" ⟨v :: _, _⟩, _) | (.builtin "bytearray.__mod__" ⟨v :: _, _⟩, _)
    | (.builtin "bytearray.__rmod__" ⟨_ :: v :: _, _⟩, _) | (.builtin "_struct.pack_into.held" ⟨v :: _, _⟩, _) => Builtin.Bytes.sameRef v self
    | (.builtin "bytearray.find.held" ⟨_ :: _ :: held, _⟩, _) => held.any (Builtin.Bytes.sameRef self)
    | (.builtin id ⟨v :: _, _⟩, _) => Builtin.Bytes.sameRef v self && Builtin.Bytes.decodersThatHold.contains id
    | _ => false) = false := by
    rw [List.any_eq_false]
    rintro ⟨c, q⟩ hx
    rw [Bool.not_eq_true]
    refine exported_one self c q ?_
    rcases List.mem_cons.mp hx with e | hx
    · cases e; exact ho
    · exact hC _ hx
  exact (congrArg (fun b => Q b s) e).mpr h
theorem ba_ownRelease {a : Addr} {Q : Bool → Shared → Prop} (hT : s.TypeIs (.ref a) "bytearray") (h : Q false s) : wpAny M A (Builtin.Bytes.ownRelease (.ref a)) Q E s := by
  unfold Builtin.Bytes.ownRelease Builtin.Bytes.slotIsOwn
  refine wpAny_bind (wpAny_bind (wpAny_specialOf hT ba_no_release ?_))
  show wpAny M A (if (!("bytearray.__release_buffer__".endsWith ("." ++ "__release_buffer__"))) = true then _ else _) _ _ _
  rw [if_neg (by decide +kernel)]
  have e : ("bytearray.__release_buffer__".dropRight ("__release_buffer__".length + 1)) = "bytearray" := by decide +kernel
  rw [e]
  exact wpAny_isInstance hT ba_sub (wpAny_pure h)
end

section
variable {α : Type} {M : Model} {A : Around} {E : Value → Shared → Prop} {s : Shared}
theorem wpX_of_eq {m : Sem α} {a : α} {Q : α → Shared → Prop} (e : m = pure a) (h : Q a s) : wpX M A m Q E s := wpX_any (wpAny_of_eq e h)
theorem wpX_ifF {c : Bool} {a b : Sem α} {Q : α → Shared → Prop} (hc : c = false) (h : wpX M A b Q E s) : wpX M A (if c = true then a else b) Q E s := by subst hc; exact h
theorem wpX_ifT {c : Bool} {a b : Sem α} {Q : α → Shared → Prop} (hc : c = true) (h : wpX M A a Q E s) : wpX M A (if c = true then a else b) Q E s := by subst hc; exact h
theorem wpX_ifN {c : Prop} [Decidable c] {a b : Sem α} {Q : α → Shared → Prop} (hc : ¬ c) (h : wpX M A b Q E s) : wpX M A (if c then a else b) Q E s := by rw [if_neg hc]; exact h
theorem wpX_ifP {c : Prop} [Decidable c] {a b : Sem α} {Q : α → Shared → Prop} (hc : c) (h : wpX M A a Q E s) : wpX M A (if c then a else b) Q E s := by rw [if_pos hc]; exact h
end
section
variable {prog : Program} {w : World} {A : Around} {E : Value → Shared → Prop} {s : Shared}
noncomputable abbrev baObj (b : Array UInt8) : Obj := { cls := .type "bytearray", data := .bytearray b }
theorem ba_new (a : Value) {Q : Value → Shared → Prop} (h : Q (.ref s.heap.objs.size) { s with heap := s.heap.push (baObj #[]) }) :
    wpAny (model prog w) A (call (.builtin "bytearray.__new__") [.type "bytearray", a]) Q E s := by
  refine wpAny_call (codeAny_of_tree ?_)
  show wpAny _ A.in1 (do checkBuiltinCall "bytearray.__new__" ⟨[.type "bytearray", a], []⟩; again (.builtin "bytearray.__new__" ⟨[.type "bytearray", a], []⟩)) _ _ s
  refine wpAny_bind (wpAny_of_eq (ba_newCall a) (wpAny_pure ⟨plainId_quiet ba_plain_new _, codeAny_builtin_stack ba_entry_new rfl fun p st => ?_⟩))
  rw [Around.under_plainId ba_plain_new _]
  have hsub := ba_sub
  have hown := owner_ba_new
  obtain ⟨hp, g, d, tk, os⟩ := s
  simp only [hown]
  wp_walk
  exact h
theorem ba_payload {a : Addr} {b : Array UInt8} {n : Nat} {M : Model} {Q : Array UInt8 → Shared → Prop} (ho : s.heap.get? a = some { cls := .type "bytearray", data := .bytearray b n }) (h : Q b s) : wpAny M A (Builtin.Bytes.payload (.ref a)) Q E s := by
  unfold Builtin.Bytes.payload Builtin.Bytes.payload?
  exact wpAny_bind (wpAny_bind (wpAny_load ho (wpAny_pure (wpAny_pure h))))
theorem ba_write {a : Addr} {b : Array UInt8} {f : Array UInt8 → Array UInt8} {M : Model} {Q : Unit → Shared → Prop} (ho : s.heap.get? a = some (baObj b)) (hz : (f b).size ≤ sizeLine) (h : Q () { s with heap := s.heap.update a (Obj.mapBytearray f) }) :
    wpAny M A (Builtin.Bytes.write (.ref a) f) Q E s := by
  unfold Builtin.Bytes.write updateBytearray
  refine wpAny_bind (wpAny_load ho ?_)
  refine wpAny_bind (wpAny_update ho ?_)
  refine wpAny_lookBehind (o := baObj (f b)) (Heap.get?_update_self _ ho rfl) ?_ h
  simp only [Data.pastItsLine]
  split
  · exfalso; omega
  · rfl
theorem ba_get {a : Addr} {b : Array UInt8} {f : Array UInt8 → Array UInt8} {h : Heap} (ho : h.get? a = some (baObj b)) : (h.update a (Obj.mapBytearray f)).get? a = some (baObj (f b)) := Heap.get?_update_self _ ho rfl
theorem ba_initX {a : Addr} {n : Int} {t : Tok} {Q : Fin → Shared → Prop} (ho : s.heap.get? a = some (baObj #[])) (h0 : 0 < n) (h1 : n ≤ 1000000)
    (h : ∀ h', h'.get? a = some (baObj (Array.replicate n.toNat 0)) → Heap.SameBut a s.heap h' → Q (.done (.ret .none)) { s with heap := h' }) :
    wpX (model prog w) A (Builtin.«bytearray.__init__» ⟨[.ref a, .int n t], []⟩) Q E s := by
  have hT : s.TypeIs (.ref a) "bytearray" := ⟨_, ho, rfl⟩
  unfold Builtin.«bytearray.__init__»
  refine wpX_bind (wpX_any (ba_ownRelease hT ?_))
  refine wpX_ifF rfl ?_
  refine wpX_bind (wpX_of_eq (ba_bind _) ?_)
  refine wpX_bind (wpX_of_eq (a := ()) rfl ?_)
  refine wpX_bind (wpX_of_eq (a := ()) rfl ?_)
  refine wpX_bind ?_
  show wpX _ _ (Builtin.Bytes.exported (.ref a) >>= _) _ _ s
  refine wpX_bind (exported_X ?_)
  refine wpX_any ?_
  show wpAny _ _ (Builtin.Bytes.exportsOf (.ref a) >>= _) _ _ s
  refine wpAny_bind ?_
  unfold Builtin.Bytes.exportsOf
  refine wpAny_bind (wpAny_load ho (wpAny_pure (wpAny_pure ?_)))
  refine wpX_any ?_
  refine bm_if_false rfl ?_
  refine wpAny_bind (ba_write ho (Nat.zero_le _) ?_)
  have ho1 := ba_get (f := fun _ => #[]) ho
  have hs1 : Heap.SameBut a s.heap (s.heap.update a (Obj.mapBytearray fun _ => #[])) := Heap.SameBut.update ..
  generalize s.heap.update a (Obj.mapBytearray fun _ => #[]) = h1' at ho1 hs1 ⊢
  refine wpAny_bind (wpAny_of_eq (a := none) rfl ?_)
  refine bm_if_false rfl ?_
  refine wpAny_bind (wpAny_of_eq (a := ()) rfl ?_)
  refine wpAny_bind (wpAny_specialOf (typeIs_int _ _ _) F.slot_int_index.lookup ?_)
  refine bm_if_true rfl ?_
  refine wpAny_bind (wpAny_of_eq (a := Except.ok n) rfl ?_)
  refine bm_if_false (by simp only [Builtin.Bytes.fitsIndex, Bool.not_eq_false', Bool.and_eq_true, decide_eq_true_eq]; omega) ?_
  rw [if_neg (by omega)]
  refine bm_if_false (by rw [beq_eq_false_iff_ne]; omega) ?_
  refine bm_if_false (KBy.tooLong_not (by omega)) ?_
  refine wpAny_bind (wpAny_rule ?_)
  rw [if_pos h0]
  refine wpAny_bind (ba_write ho1 (by rw [Array.size_replicate]; show _ ≤ 16777216; omega) ?_)
  exact wpAny_pure (h _ (ba_get ho1) (hs1.trans (Heap.SameBut.update ..)))

theorem okB {id : String} {args : Args} (h : (!(Builtin.Bytes.decodersThatHold.contains id) && !(["bytearray.__contains__", "bytearray.__mod__", "bytearray.__rmod__", "_struct.pack_into.held", "bytearray.find.held"].contains id)) = true) : okC (.builtin id args) = true := h
theorem codeX_builtin {id : String} {args : Args} {b : Builtin} {R : Result → Shared → Prop} (ok : okC (.builtin id args) = true) (hb : entryFor table id = some b)
    (h : wpX (model prog w) (A.under (.builtin id args)) (b args) (fun fin s' => match fin with | .done f => R (.ok f) s' | .again c' => c'.quiet = true ∧ codeX (model prog w) A c' R s') (fun e s' => R (.error e) s') s) :
    codeX (model prog w) A (.builtin id args) R s := by
  have e : (model prog w).den (.builtin id args) = b args := by
    show (match entryFor table id with | some b => b args | none => unsupported ((withoutEnding? id "#data").getD id)) = _
    rw [hb]
  refine codeX_of_tree ok ?_
  rw [e]; exact h
/-- bytearray(n), where no holder lies on the stack -/
theorem ba_callX {n : Int} {t : Tok} {Q : Value → Shared → Prop} (h0 : 0 < n) (h1 : n ≤ 1000000)
    (h : ∀ h', h'.get? s.heap.objs.size = some (baObj (Array.replicate n.toNat 0)) → (∀ b o, s.heap.get? b = some o → h'.get? b = some o) → Q (.ref s.heap.objs.size) { s with heap := h' }) :
    wpX (model prog w) A (call (.type "bytearray") [.int n t]) Q E s := by
  refine wpX_call (codeX_of_tree rfl ?_)
  refine wpX_pure ⟨Code.quiet_builtin _ (by decide +kernel), codeX_builtin (okB (by decide +kernel)) F.entry_type_call ?_⟩
  unfold Builtin.«type.__call__»
  refine wpX_ifF (by decide +kernel) ?_
  refine wpX_ifF (by decide +kernel) ?_
  refine wpX_bind (wpX_of_eq (ba_typeCall _) ?_)
  refine wpX_bind (wpX_of_eq ba_mro ?_)
  refine wpX_ifF rfl ?_
  refine wpX_bind (wpX_of_eq ba_made ?_)
  refine wpX_bind (wpX_pure ?_)
  refine wpX_bind (wpX_holding (wpX_any (ba_new _ ?_)))
  have ho := Heap.get?_push_size s.heap (o := baObj #[]) rfl
  have hT : Shared.TypeIs { s with heap := s.heap.push (baObj #[]) } (.ref s.heap.objs.size) "bytearray" := ⟨_, ho, rfl⟩
  refine wpX_bind (wpX_any (wpAny_isInstance hT ba_sub ?_))
  refine wpX_ifF rfl ?_
  refine wpX_bind (wpX_holding ?_)
  simp only [callSpecial?]
  refine wpX_bind (wpX_any (wpAny_specialOf hT ba_slot_init.lookup ?_))
  simp only [ba_slot_init.bind]
  refine wpX_holding (wpX_bind (wpX_pure (wpX_bind (wpX_call (codeX_of_tree rfl ?_)))))
  show wpX _ _ (do checkBuiltinCall "bytearray.__init__" ⟨[.ref s.heap.objs.size, .int n t], []⟩; again (.builtin "bytearray.__init__" ⟨[.ref s.heap.objs.size, .int n t], []⟩)) _ _ _
  refine wpX_bind (wpX_any (ba_slot_init.check _ _ _ _ _ _ _ _ hT (ba_args_init _ _) ?_))
  refine wpX_pure ⟨plainId_quiet ba_plain_init _, codeX_builtin (okB (by decide +kernel)) ba_entry_init ?_⟩
  refine ba_initX ho h0 h1 fun h' hg hs => ?_
  refine wpX_pure (wpX_ifF (by decide +kernel) (wpX_pure ?_))
  exact h h' hg fun b o e => (hs.2 b (Nat.ne_of_lt (Heap.lt_size e))).trans (Heap.get?_push_of_some _ e)

theorem ba_setItem {a : Addr} {b : Array UInt8} {k v : Int} {t u : Tok} {Q : Unit → Shared → Prop} (ho : s.heap.get? a = some (baObj b)) (h0 : 0 ≤ k) (h1 : k < b.size) (hb : b.size ≤ 1000000) (v0 : 0 ≤ v) (v1 : v < 256)
    (h : ∀ h', h'.get? a = some (baObj (b.setIfInBounds k.toNat v.toNat.toUInt8)) → Heap.SameBut a s.heap h' → Q () { s with heap := h' }) :
    wpAny (model prog w) A (setItem (.ref a) (.int k t) (.int v u)) Q E s := by
  have hT : s.TypeIs (.ref a) "bytearray" := ⟨_, ho, rfl⟩
  unfold setItem
  refine wpAny_holding ?_
  refine wpAny_bind (wpAny_sequenceKey hT (by decide) ?_)
  refine wpAny_bind (wpAny_callSpecial?_slot (name := Str.ofString "__setitem__") hT ba_slot_setitem
    (wpAny_call_entry ba_slot_setitem hT ba_entry_setitem ?_ (ba_args_setitem _ _ _)))
  unfold Builtin.«bytearray.__setitem__»
  refine bm_if_false rfl ?_
  refine wpAny_bind ?_
  unfold Builtin.Bytes.subscript?
  refine wpAny_bind (wpAny_specialOf (typeIs_int _ _ _) F.slot_int_index.lookup ?_)
  refine bm_if_false rfl ?_
  refine wpAny_bind (wpAny_of_eq (a := k) rfl ?_)
  refine bm_if_false (by simp only [Builtin.Bytes.fitsIndex, Bool.not_eq_false', Bool.and_eq_true, decide_eq_true_eq]; omega) ?_
  refine wpAny_pure ?_
  refine wpAny_bind ?_
  unfold Builtin.Bytes.byteValue
  refine wpAny_bind (wpAny_of_eq (a := v) rfl ?_)
  refine bm_if_false (by simp only [Bool.or_eq_false_iff, decide_eq_false_iff_not]; omega) ?_
  refine wpAny_pure ?_
  refine wpAny_bind (ba_payload ho ?_)
  rw [seqIndex_of h0 h1]
  refine wpAny_bind (ba_write ho (by rw [Array.size_setIfInBounds]; show _ ≤ 16777216; omega) ?_)
  exact wpAny_pure ⟨_, rfl, wpAny_pure (h _ (ba_get ho) (Heap.SameBut.update ..))⟩
theorem ba_slotBuffer {a : Addr} {M : Model} {Q : Bool → Shared → Prop} (hT : s.TypeIs (.ref a) "bytearray") (h : Q true s) : wpAny M A (Builtin.Bytes.slotIsOwn (.ref a) "__buffer__") Q E s := by
  unfold Builtin.Bytes.slotIsOwn
  refine wpAny_bind (wpAny_specialOf hT ba_buffer ?_)
  show wpAny M A (if (!("bytearray.__buffer__".endsWith ("." ++ "__buffer__"))) = true then _ else _) _ _ _
  rw [if_neg (by decide +kernel)]
  have e : ("bytearray.__buffer__".dropRight ("__buffer__".length + 1)) = "bytearray" := by decide +kernel
  rw [e]
  exact wpAny_isInstance hT ba_sub h
theorem ba_buffer? {a : Addr} {b : Array UInt8} {M : Model} {id : String} {full : Bool} {Q : Option (Array UInt8) → Shared → Prop} (ho : s.heap.get? a = some (baObj b)) (h : Q (some b) s) : wpAny M A (Builtin.Bytes.buffer? id (.ref a) full) Q E s := by
  have hT : s.TypeIs (.ref a) "bytearray" := ⟨_, ho, rfl⟩
  unfold Builtin.Bytes.buffer?
  refine wpAny_bind (wpAny_specialOf hT ba_buffer ?_)
  refine wpAny_bind (ba_slotBuffer hT ?_)
  refine bm_if_false rfl ?_
  refine wpAny_bind (wpAny_specialOf hT ba_buffer ?_)
  refine wpAny_bind (ba_ownRelease hT ?_)
  refine bm_if_false rfl ?_
  exact wpAny_bind (ba_payload ho (wpAny_pure h))
theorem ba_toBytes {a : Addr} {b : Array UInt8} {Q : Value → Shared → Prop} (ho : s.heap.get? a = some (baObj b)) (hb : b.size ≤ 1000000) (h : ∀ t, Q (.bytes b t) { s with toks := s.toks + 1 }) :
    wpAny (model prog w) A (call (.type "bytes") [.ref a]) Q E s := by
  have hT : s.TypeIs (.ref a) "bytearray" := ⟨_, ho, rfl⟩
  refine callType_codes (Q₁ := fun obj s₁ => s₁.TypeIs obj "bytes" ∧ Q obj s₁) F.bm_called (F.bm_typeCall _) F.entry_object_init ?_ fun obj s₁ h₁ =>
    ⟨h₁.1, F.args_object_init_2 obj _, object_init_meets F.bm_called.init.lookup F.bm_called.made (by decide) prog w A.in1 _ s₁ ⟨h₁.1, rfl, h₁.2⟩⟩
  refine codeAny_of_tree ?_
  show wpAny _ A.in1.in1 (do checkBuiltinCall "bytes.__new__" ⟨[.type "bytes", .ref a], []⟩; again (.builtin "bytes.__new__" ⟨[.type "bytes", .ref a], []⟩)) _ _ s
  refine wpAny_bind (wpAny_of_eq (F.bm_newCall _) (wpAny_pure ⟨plainId_quiet F.bm_plain _, codeAny_builtin F.bm_entry ?_⟩))
  rw [Around.under_plainId F.bm_plain _]
  unfold Builtin.«bytes.__new__»
  refine wpAny_bind (wpAny_of_eq (a := true) rfl ?_)
  refine bm_if_false rfl ?_
  refine wpAny_bind (wpAny_of_eq F.bm_sub ?_)
  refine bm_if_false rfl ?_
  refine wpAny_bind (wpAny_of_eq (F.bm_bind _) ?_)
  refine wpAny_bind (wpAny_of_eq (a := ()) rfl ?_)
  refine wpAny_bind (wpAny_of_eq (a := ()) rfl ?_)
  refine bm_if_false rfl ?_
  refine wpAny_bind (wpAny_specialOf hT ba_no_bytes ?_)
  refine wpAny_bind (wpAny_bind ?_)
  show wpAny _ _ (load a >>= _) _ _ _
  refine wpAny_bind (wpAny_load ho ?_)
  refine wpAny_pure (wpAny_pure ?_)
  refine bm_if_false rfl ?_
  refine wpAny_bind (wpAny_specialOf hT ba_no_index ?_)
  refine bm_if_true rfl ?_
  show wpAny _ _ (Builtin.Bytes.buffer? "bytes.__new__" (.ref a) true >>= _) _ _ _
  refine wpAny_bind (ba_buffer? ho ?_)
  refine wpAny_bind (wpAny_rule ?_)
  refine wpAny_bind (wpAny_mkBytes ?_ (by show _ ≤ 16777216; omega))
  first
    | exact wpAny_pure ⟨typeIs_bytes _ _ _, h _⟩
    | exact wpAny_bind (wpAny_pure (wpAny_pure ⟨typeIs_bytes _ _ _, h _⟩))
    | exact wpAny_pure (wpAny_pure ⟨typeIs_bytes _ _ _, h _⟩)

-- bytes.translate
theorem tr_slot : Slot "bytes" "translate" "bytes.translate" :=
  .of (owner := "bytes") (n := "translate") (by rw [typeLookup_type, builtinLookup_eq_fast]; kernel_rfl) (by decide +kernel) (by decide +kernel) (by decide +kernel)
    (by first | exact .inl (by decide +kernel) | exact .inr (by decide +kernel)) (by rw [isSubtype_type]; kernel_rfl)
theorem tr_type : typeOf (.builtin "bytes.translate") = pure (.type "method_descriptor") := by show builtinType _ = _; rw [builtinType_eq_fast]; kernel_rfl
theorem tr_entry : entryFor table "bytes.translate" = some Builtin.«bytes.translate» := by first | exact entryFor_of_tree (by kernel_rfl) | exact entryFor_of_fast (by kernel_rfl)
theorem tr_args (a b : Value) : argsOk "bytes.translate" ⟨[a, b], []⟩ := by unfold argsOk; kernel_rfl
noncomputable def trans (tb : Array UInt8) (b : Array UInt8) : Array UInt8 := b.map fun c => tb.getD c.toNat c
theorem tr_meets (b tb : Array UInt8) (t u : Tok) (hs : tb.size = 256) (hb : b.size ≤ 1000000) :
    Meets (Builtin.«bytes.translate» ⟨[.bytes b t, .bytes tb u], []⟩) (fun _ R s => ∀ t' tk, R (.ok (.ret (.bytes (trans tb b) t'))) { s with toks := tk }) := by
  refine .of_wp fun prog w A R s h => ?_
  show wpAny _ _ (Builtin.Bytes.translateM .bytes ⟨[.bytes b t, .bytes tb u], []⟩) _ _ _
  unfold Builtin.Bytes.translateM
  refine wpAny_ite (KBy.ite_no (show ¬ ((1 : Nat) > 2) by decide) ?_)
  refine wpAny_ite (KBy.ite_no (show ¬ (false = true) by decide) ?_)
  refine wpAny_ite (KBy.ite_no (show ¬ (false = true) by decide) ?_)
  refine wpAny_bind ?_
  unfold Builtin.Bytes.bytesLike
  refine wpAny_bind (wpAny_of_eq KBy.buffer_eq (wpAny_pure ?_))
  refine bm_if_false (by rw [hs]; rfl) ?_
  refine wpAny_bind (wpAny_pure (wpAny_bind (wpAny_pure (wpAny_bind (wpAny_of_eq (a := b) rfl ?_)))))
  have e : (Array.map (fun c => match some tb with | some t => t.getD c.toNat c | none => c) (Array.filter (fun x => !Array.contains #[] x) b)) = trans tb b := by
    have : Array.filter (fun x => !Array.contains #[] x) b = b := by
      apply Array.filter_eq_self.mpr
      intro x _; simp
    rw [this]; rfl
  dsimp only
  rw [e]
  refine wpAny_ite ?_
  split
  · rename_i hc
    have hc' : trans tb b = b := eq_of_beq hc
    refine wpAny_bind (wpAny_rule (wpAny_bind (wpAny_of_eq (a := .bytes b t) rfl (wpAny_pure ⟨_, rfl, ?_⟩))))
    rw [hc'] at h
    exact h t s.toks
  · refine wpAny_bind (wpAny_mkBytes (wpAny_pure ⟨_, rfl, h _ _⟩) ?_)
    show (trans tb b).size ≤ 16777216
    unfold trans
    rw [Array.size_map]; omega
end
end Mine
end
-- text MPrim
section
open PySem PySem.W PyProof.Rows PySem.Calls
set_option Elab.async false
set_option maxRecDepth 100000
namespace Mine
section
variable {prog : Program} {w : World} {A : Around} {E : Value → Shared → Prop} {env : Env} {B : Bs} {L : Addr} {m : Str → Option Value} {mu : Led} {fz fz' : Fz} {mg mb : Str → Option Value} {t u : Tok}
theorem X_callWith_type {s : Shared} {M : Model} {pos : Pos} {T : String} {args : List (Bool × Sem Value)} {Q : Value → Shared → Prop} (hplain : args.any (·.1) = false)
    (h : wpX M A (evalArgs (.type T) true args []) (fun a s₁ => wpX M A (call (.type T) a.pos a.kw) Q E s₁) E s) : wpX M A (callWith pos (.type T) [] args []) Q E s := by
  unfold callWith
  refine wpX_bind (wpX_holding (wpX_mono h (fun a s₁ h₁ => wpX_bind (wpX_standAt ?_)) fun _ _ x => x))
  simp only [hplain, List.any_nil, Bool.or_false]
  refine wpX_bind (wpX_pure ?_)
  exact wpX_bind (wpX_mono h₁ (fun r s₂ hr => wpX_any (wpAny_bind (wpAny_holding (wpAny_point (wpAny_pure hr))))) fun _ _ x => x)
theorem y_type {pos : Pos} {T : String} {e : Expr} {rest : List Expr} {Q : Value → Shared → Prop}
    (h : ∀ s, Fs B L m mu fz s → wpAny (model prog w) A (spliced (backTo pos (starEach (e :: rest) env))) (fun vs s₁ => wpX (model prog w) A (call (.type T) vs) Q E s₁) E s)
    (he : starEach (e :: rest) env = (false, eval e env) :: starEach rest env := by rfl)
    (hplain : (backTo pos (starEach rest env)).any (·.1) = false := by rfl) :
    ∀ s, Fs B L m mu fz s → wpX (model prog w) A (callWith pos (.type T) [] (backTo pos (starEach (e :: rest) env)) []) Q E s := fun s S => by
  have h' := h s S
  rw [he] at h' ⊢
  exact X_callWith_type (by show (false || (backTo pos (starEach rest env)).any (·.1)) = false; rw [hplain]; rfl) (X_evalArgs (wpX_any h'))
theorem p_ba {n : Int} {Q : Value → Shared → Prop} (h0 : 0 < n) (h1 : n ≤ 1000000) (h : ∀ a s, Fs B L m ((a, baObj (Array.replicate n.toNat 0)) :: mu) fz s → Q (.ref a) s) :
    ∀ s, Fs B L m mu fz s → wpX (model prog w) A (call (.type "bytearray") [.int n t]) Q E s := fun s S => by
  refine ba_callX h0 h1 fun h' hg hk => h _ _ ?_
  have K := S.grow (tk := s.toks) hk
  refine ⟨K.gens, K.drawn, K.os, K.ns, K.keep, K.newL, K.le, K.fzs, ?_, ?_⟩
  · intro p hp
    rcases List.mem_cons.mp hp with rfl | hp
    · exact ⟨hg, Nat.ne_of_gt S.lt, fun q hq => absurd (Heap.lt_size (S.fzs _ _ hq).1) (Nat.lt_irrefl _), S.fresh⟩
    · exact K.mus p hp
  · exact (S.alloc (tk := s.toks) (baObj #[])).nd
theorem p_baSet {a : Addr} {b : Array UInt8} {k v : Int} {pre post : Led} {Q : Unit → Shared → Prop} (h0 : 0 ≤ k) (h1 : k < b.size) (hb : b.size ≤ 1000000) (v0 : 0 ≤ v) (v1 : v < 256)
    (h : ∀ s, Fs B L m (pre ++ (a, baObj (b.setIfInBounds k.toNat v.toNat.toUInt8)) :: post) fz s → Q () s) :
    ∀ s, Fs B L m (pre ++ (a, baObj b) :: post) fz s → wpAny (model prog w) A (setItem (.ref a) (.int k t) (.int v u)) Q E s := fun s S => by
  refine ba_setItem (S.own (by simp)) h0 h1 hb v0 v1 fun h' hg hs => h _ (S.put (tk := s.toks) hg fun b q hb e => (hs.2 b hb).trans e)
theorem p_baBytes {a : Addr} {b : Array UInt8} {Q : Value → Shared → Prop} (ha : (a, baObj b) ∈ mu) (hb : b.size ≤ 1000000) (h : ∀ t s, Fs B L m mu fz s → Q (.bytes b t) s) :
    ∀ s, Fs B L m mu fz s → wpAny (model prog w) A (call (.type "bytes") [.ref a]) Q E s := fun s S => ba_toBytes (S.own ha) hb fun t => h t _ S.toks
theorem p_byteAt {l : List UInt8} {i : Int} {value slice : Expr} {Q : Value → Shared → Prop} (hl : l.length ≤ 1000000) (h0 : 0 ≤ i) (h1 : i < l.length) (h : ∀ t s, Fs B L m mu fz s → Q (.int (l.getD i.toNat 0).toNat t) s)
    (hs : subscripted slice false (.bytes l.toArray t) (.int i u) = operate [.bytes l.toArray t, .int i u] (getItem (.bytes l.toArray t) (.int i u)) := by with_unfolding_all rfl)
    (ht : ∀ r, letTemporaryGo value (.bytes l.toArray t) r = pure () := by intro _; with_unfolding_all rfl) :
    ∀ s, Fs B L m mu fz s → wpAny (model prog w) A (subscriptTail value slice (.bytes l.toArray t) (.int i u)) Q E s := fun s S =>
  KBy.item_N (Nat.le_trans hl (by decide)) h0 h1 (h _ _ S.toks) hs ht
end
/-- the part of a reversal that j turns have laid -/
noncomputable def revPart (l : List UInt8) (j : Nat) : Array UInt8 := (List.replicate (l.length - j) 0 ++ (l.take j).reverse).toArray
theorem revPart_zero (l : List UInt8) : revPart l 0 = Array.replicate l.length 0 := by simp [revPart]
theorem revPart_all (l : List UInt8) : revPart l l.length = l.reverse.toArray := by simp [revPart]
theorem revPart_size (l : List UInt8) (j : Nat) (h : j ≤ l.length) : (revPart l j).size = l.length := by simp [revPart]; omega
theorem revPart_succ (l : List UInt8) (j : Nat) (h : j < l.length) : (revPart l j).setIfInBounds (l.length - 1 - j) (l.getD j 0) = revPart l (j + 1) := by
  unfold revPart
  have e1 : l.length - j = (l.length - (j + 1)) + 1 := by omega
  have e2 : l.length - 1 - j = (List.replicate (l.length - (j + 1)) (0 : UInt8)).length := by simp; omega
  rw [List.setIfInBounds_toArray]
  congr 1
  rw [e2, e1, List.replicate_succ', List.append_assoc, List.set_append_right _ _ (Nat.le_refl _), Nat.sub_self]
  congr 1
  have e3 : l.take (j + 1) = l.take j ++ [l[j]] := by
    rw [List.take_add_one, List.getElem?_eq_getElem h]; rfl
  rw [e3, List.reverse_append, List.getD_eq_getElem?_getD, List.getElem?_eq_getElem h]
  rfl
end Mine
end
-- text MPrim2
section
open PySem PySem.W PyProof.Rows PySem.Calls
set_option Elab.async false
set_option maxRecDepth 100000
namespace Mine
section
variable {prog : Program} {w : World} {A : Around} {E : Value → Shared → Prop} {env : Env} {B : Bs} {L : Addr} {m : Str → Option Value} {mu : Led} {fz fz' : Fz} {mg mb : Str → Option Value} {t u : Tok} {s : Shared}
theorem call_type1 {v : Value} {T : String} {Q : Value → Shared → Prop} (hv : (v == .builtin "__main__.__loader__#opaque") = false) (hs : shownTypeOf v = pure (.type T)) (h : Q (.type T) s) :
    wpAny (model prog w) A (call (.type "type") [v]) Q E s := by
  refine wpAny_call (codeAny_of_tree ?_)
  refine wpAny_pure ⟨Code.quiet_builtin _ (by decide +kernel), codeAny_builtin F.entry_type_call ?_⟩
  unfold Builtin.«type.__call__»
  refine bm_if_true (by decide +kernel) ?_
  refine bm_if_true rfl ?_
  refine bm_if_false rfl ?_
  refine bm_if_false hv ?_
  first
    | (refine wpAny_bind (wpAny_of_eq hs (wpAny_pure ?_)); exact h)
    | (refine wpAny_bind (wpAny_bind (wpAny_of_eq hs (wpAny_pure ?_))); exact wpAny_pure h)
theorem p_typeB {b : Array UInt8} {Q : Value → Shared → Prop} (h : ∀ s, Fs B L m mu fz s → Q (.type "bytes") s) : ∀ s, Fs B L m mu fz s → wpAny (model prog w) A (call (.type "type") [.bytes b t]) Q E s :=
  fun s S => call_type1 rfl rfl (h s S)
theorem p_typeBool {b : Bool} {Q : Value → Shared → Prop} (h : ∀ s, Fs B L m mu fz s → Q (.type "bool") s) : ∀ s, Fs B L m mu fz s → wpAny (model prog w) A (call (.type "type") [.bool b]) Q E s :=
  fun s S => call_type1 rfl rfl (h s S)
theorem p_typeTup {a : Addr} {o : Obj} {Q : Value → Shared → Prop} (ha : fz a o ∨ (a, o) ∈ mu) (hc : o.cls = .type "tuple") (h : ∀ s, Fs B L m mu fz s → Q (.type "tuple") s) : ∀ s, Fs B L m mu fz s → wpAny (model prog w) A (call (.type "type") [.ref a]) Q E s :=
  fun s S => kto_cont (T := "tuple") ⟨o, ha.elim S.get S.own, hc⟩ rfl (h s S)
theorem p_isT {x y : String} {Q : Value → Shared → Prop} (h : ∀ s, Fs B L m mu fz s → Q (.bool (Value.type x == Value.type y)) s) : ∀ s, Fs B L m mu fz s → wpAny (model prog w) A (compareOp .Is (.type x) (.type y)) Q E s :=
  fun s S => wpAny_bind (wpAny_pure (wpAny_pure (h s S)))
theorem p_isNotT {x y : String} {Q : Value → Shared → Prop} (h : ∀ s, Fs B L m mu fz s → Q (.bool (!(Value.type x == Value.type y))) s) : ∀ s, Fs B L m mu fz s → wpAny (model prog w) A (compareOp .IsNot (.type x) (.type y)) Q E s :=
  fun s S => wpAny_bind (wpAny_pure (wpAny_pure (h s S)))
theorem p_isNone {v : Value} {Q : Value → Shared → Prop} (h : ∀ s, Fs B L m mu fz s → Q (.bool (v == .none)) s) : ∀ s, Fs B L m mu fz s → wpAny (model prog w) A (compareOp .Is v .none) Q E s := fun s S => PySem.is_none (h s S)
theorem p_isNotNone {v : Value} {Q : Value → Shared → Prop} (h : ∀ s, Fs B L m mu fz s → Q (.bool (!(v == .none))) s) : ∀ s, Fs B L m mu fz s → wpAny (model prog w) A (compareOp .IsNot v .none) Q E s := fun s S => PySem.isNot_none (h s S)
theorem p_newList {vs : List Value} {Q : Value → Shared → Prop} (hz : vs.length ≤ 1000000) (h : ∀ a s, Fs B L m ((a, listOf vs.toArray 0) :: mu) fz s → Q (.ref a) s) : ∀ s, Fs B L m mu fz s → wpAny (model prog w) A (newList vs) Q E s :=
  fun s S => wpAny_newObj_type (h _ _ (S.alloc _)) (by show vs.toArray.size ≤ sizeLine; rw [List.size_toArray]; show _ ≤ 16777216; omega)
theorem p_newListF {vs : List Value} {Q : Value → Shared → Prop} (hz : vs.length ≤ 1000000) (h : ∀ a s, Fs B L m mu (fz.add a (listOf vs.toArray 0)) s → Q (.ref a) s) : ∀ s, Fs B L m mu fz s → wpAny (model prog w) A (newList vs) Q E s :=
  fun s S => wpAny_newObj_type (h _ _ (S.allocF _)) (by show vs.toArray.size ≤ sizeLine; rw [List.size_toArray]; show _ ≤ 16777216; omega)
theorem p_newTupleF {vs : List Value} {Q : Value → Shared → Prop} (hz : vs.length ≤ 1000000) (h : ∀ a s, Fs B L m mu (fz.add a { cls := .type "tuple", data := .seq vs.toArray }) s → Q (.ref a) s) : ∀ s, Fs B L m mu fz s → wpAny (model prog w) A (newTuple vs) Q E s :=
  fun s S => wpAny_newObj_type (h _ _ (S.allocF _)) (by show vs.toArray.size ≤ sizeLine; rw [List.size_toArray]; show _ ≤ 16777216; omega)

/-- x.append(e): first e, then the append -/
noncomputable def AppK (l : Addr) (Q : Value → Shared → Prop) (v : Value) (s : Shared) : Prop := ∃ items n, items.size ≤ sizeLine ∧ IsL s.heap l items n ∧ Q .none { s with heap := s.heap.update l (Obj.mapSeq fun xs => xs.push v) }
theorem e_append {x : Str} {xp apos pos : Pos} {e : Expr} {l : Addr} {o : Obj} {Q : Value → Shared → Prop} (hv : m x = some (.ref l)) (ho : (l, o) ∈ mu) (hc : o.cls = .type "list") (hdn : o.dict = none)
    (h : ∀ s, Fs B L m mu fz s → wpAny (model prog w) A (eval e env) (AppK l Q) E s)
    (hL : env.locals = L := by rfl) (hk : env.scope.kind = .function := by rfl) (hl : env.kindOf x = some .local := by rfl) (hd : (x == ("__debug__" : Str)) = false := by decide)
    (hbase : attributeBase (.Name x xp) "append" env (eval (.Name x xp) env) = eval (.Name x xp) env := by rfl) (hs : starEach [e] env = [(false, eval e env)] := by rfl) (hline : (apos.endLine == pos.line) = true := by rfl) :
    ∀ s, Fs B L m mu fz s → wpAny (model prog w) A (eval (.Call (.Attribute (.Name x xp) "append" apos) [e] [] pos) env) Q E s := fun s S => by
  refine Call_method1 hbase hs hline (e_loc hv (fun s S => ?_) hL hk hl hd s S)
  refine ⟨"list", "list.append", F.plainAttrs_list, F.slot_list_append, F.type_list_append, ⟨o, S.own ho, hc⟩, fun a e => ?_, P.append_list (h s S)⟩
  cases e
  exact ⟨o, S.own ho, hdn⟩
theorem p_append {l : Addr} {its : Array Value} {n : Nat} {v : Value} {pre post : Led} {Q : Value → Shared → Prop} (hz : its.size ≤ 1000000) (h : ∀ s, Fs B L m (pre ++ (l, listOf (its.push v) (n + 1)) :: post) fz s → Q .none s) :
    ∀ s, Fs B L m (pre ++ (l, listOf its n) :: post) fz s → AppK l Q v s := fun s S => by
  have ho : s.heap.get? l = some (listOf its n) := S.own (by simp)
  refine ⟨its, n, by show _ ≤ 16777216; omega, ho, h _ (S.put (tk := s.toks) ?_ fun b q hb e => (Heap.get?_update_other _ _ (Ne.symm hb)).trans e)⟩
  have := Heap.get?_update_self (Obj.mapSeq fun xs => xs.push v) ho rfl
  rw [this]
  show some (Obj.mapSeq _ (listOf its n)) = _
  simp only [Obj.mapSeq, Array.size_push]
  rw [if_neg (by simp)]
end
end Mine
end
-- text MCall2
section
open PySem PySem.W PyProof.Rows PySem.Calls
set_option Elab.async false
set_option maxRecDepth 100000
namespace Mine
section
variable {prog : Program} {w : World} {A : Around} {E : Value → Shared → Prop} {env : Env} {B : Bs} {L : Addr} {m : Str → Option Value} {mu : Led} {fz fz' : Fz} {mg mb : Str → Option Value}
theorem call_fnD {a c k : Nat} {dV kV : Value} {args : List Value} {kw : List (Str × Value)} {binds : List (Str × Value)} {Q : Value → Shared → Prop} (Res : Value → Fz → Prop) (T : Tp mg mb fz) (hf : FnAtD fz a c k dV kV) (hA : A.depth < recursionLimit)
    (hbind : ∀ pm doc (Q : List (Str × Value) → Shared → Prop) (E : Value → Shared → Prop) s, Fs B L m mu fz s → Q binds s → wpAny (model prog w) A.in1 (bindArgs (fdOf k pm (.ref c) doc dV kV) ⟨args, kw⟩) Q E s)
    (hloc : (binds.all fun x => decide ((sScope (topS k)).names.lookup x.1 = some .local)) = true)
    (hb : ∀ (B' : Bs) (L' : Addr), B'.f0 = fz → B'.fs = L :: B.fs → ∀ s, Fs B' L' (mOf binds) [] fz s →
      wpAny (model prog w) (A.deeper (envOf (sName (topS k)) (sScope (topS k)) L' a (.ref c))) (execs (sBody (topS k)) (envOf (sName (topS k)) (sScope (topS k)) L' a (.ref c))) (Ret B' L' Res) NE s)
    (h : ∀ v fz', fz.le fz' → Res v fz' → ∀ s, Fs B L m mu fz' s → Q v s)
    (hco : (sScope (topS k)).isCoroutine = false := by rfl) (hgen : (sScope (topS k)).isGenerator = false := by rfl) (hk : (sScope (topS k)).kind = .function := by rfl)
    (hcell : ∀ x ∈ (sScope (topS k)).names, x.2 ≠ .cell := by decide) :
    ∀ s, Fs B L m mu fz s → wpAny (model prog w) A (call (.ref a) args kw) Q E s := fun s S => by
  obtain ⟨o, pm, doc, ho, hd, oc, vs, t, hoc, hdc, hq⟩ := hf
  refine wpAny_call (codeAny_call_function (body := sBody (topS k)) hA (S.get ho) hd hco hgen rfl ⟨c, oc, vs, t, rfl, S.get hoc, hdc, hq⟩ (hbind pm doc _ _ s S ?_))
  refine wpAny_newFunctionEnv hcell (locs hloc) (fun h₁ hns hsb => ⟨(T.noLimit S).fresh _ hsb, codeAny_func ?_⟩) hk
  have F : Fr s.heap s.heap.objs.size h₁ (fun x => binds.reverse.lookup x) := ⟨hns, fun b o e => hsb.extBut b o (Nat.ne_of_lt (Heap.lt_size e)) (Heap.get?_push_of_some _ e), Nat.le_refl _⟩
  rw [lookup_mOf] at F
  have S₁ : Fs ⟨s, fz, L :: B.fs⟩ s.heap.objs.size (mOf binds) [] fz { s with heap := h₁, toks := s.toks + binds.length } := by
    refine ⟨rfl, rfl, rfl, F.ns, S.kpCall F.keep, ?_, Fz.le_refl _, fun a o e => ?_, fun p hp => (nomatch hp), List.nodup_nil⟩
    · show s.heap.get? s.heap.objs.size = none
      cases e : s.heap.get? s.heap.objs.size with
      | none => rfl
      | some o => exact absurd (Heap.lt_size e) (Nat.lt_irrefl _)
    · have := S.get e
      exact ⟨F.keep _ _ this, Nat.ne_of_lt (Heap.lt_size this), .inl e⟩
  refine wpAny_mono (hb ⟨s, fz, L :: B.fs⟩ _ rfl rfl _ S₁) (fun f s' hr => ?_) fun _ _ x => x.elim
  obtain ⟨v, m', mu', fz', rfl, S', hR⟩ := hr
  exact h v fz' S'.le hR s' (S.back S')
/-- f(e, name=value) -/
theorem e_callKw {x : Str} {np pos : Pos} {e : Expr} {kws : List Keyword} {a c k : Nat} {dV kV : Value} {Q : Value → Shared → Prop} (hf : FnAtD B.f0 a c k dV kV)
    (hn : ∀ (Q' : Value → Shared → Prop), (∀ s, Fs B L m mu fz s → Q' (.ref a) s) → ∀ s, Fs B L m mu fz s → wpAny (model prog w) A (eval (.Name x np) env) Q' E s)
    (hall : (backToKw pos (keywordEach kws env)).all (·.1.isSome) = true)
    (h : ∀ s, Fs B L m mu fz s → wpAny (model prog w) A (spliced (backTo pos (starEach [e] env))) (fun vs s₁ => wpAny (model prog w) A (evalAll ((backToKw pos (keywordEach kws env)).map (·.2)))
      (fun ks s₂ => Fl B.f0 s₂ ∧ wpAny (model prog w) A (call (.ref a) vs (((backToKw pos (keywordEach kws env)).filterMap (·.1)).zip ks)) Q E s₂) E s₁) E s)
    (he : starEach [e] env = (false, eval e env) :: starEach [] env := by rfl) :
    ∀ s, Fs B L m mu fz s → wpAny (model prog w) A (eval (.Call (.Name x np) [e] kws pos) env) Q E s := fun s S => by
  obtain ⟨o, pm, doc, ho, hd, _⟩ := hf
  refine wpAny_bind (hn _ (fun s S => ?_) s S)
  refine callWith_def_kw hd (evalArgs_kw2 hall (wpAny_mono (h s S) (fun vs s₁ h₁ => wpAny_mono h₁ (fun ks s₂ h₂ => ⟨h₂.1 _ _ ho, h₂.2⟩) fun _ _ x => x) fun _ _ x => x) he)
theorem kw_cons {pos p : Pos} {name : Str} {value : Expr} {rest : List Keyword} {Q : List Value → Shared → Prop}
    (h : ∀ s, Fs B L m mu fz s → wpAny (model prog w) A (eval value env) (fun v s₁ => wpAny (model prog w) A (evalAll ((backToKw pos (keywordEach rest env)).map (·.2))) (fun vs s₂ => Q (v :: vs) s₂) E s₁) E s) :
    ∀ s, Fs B L m mu fz s → wpAny (model prog w) A (evalAll ((backToKw pos (keywordEach (⟨some name, value, p⟩ :: rest) env)).map (·.2))) Q E s := fun s S => kwAll_cons (h s S)
theorem kw_nil {pos : Pos} {Q : List Value → Shared → Prop} (h : ∀ s, Fs B L m mu fz s → Q [] s) : ∀ s, Fs B L m mu fz s → wpAny (model prog w) A (evalAll ((backToKw pos (keywordEach [] env)).map (·.2))) Q E s := fun s S => kwAll_nil (h s S)
end
end Mine
end
-- text MPrim3
section
open PySem PySem.W PyProof.Rows PySem.Calls
set_option Elab.async false
set_option maxRecDepth 100000
namespace Mine
section
variable {prog : Program} {w : World} {A : Around} {E : Value → Shared → Prop} {env : Env} {B : Bs} {L : Addr} {m : Str → Option Value} {mu : Led} {fz fz' : Fz} {mg mb : Str → Option Value} {t u : Tok}
theorem for_bytes {x : Str} {px : Pos} {body : List Stmt} {Q : Flow → Shared → Prop} {l : List UInt8}
    (J : Nat → (Str → Option Value) → Led → Fz → Prop) (hh : A.handled = none) (hJ : J 0 m mu fz)
    (turn : ∀ (i : Nat) (hi : i < l.length) t m₁ mu₁ fz₁ ex, fz.le fz₁ → J i m₁ mu₁ fz₁ → ∀ s, Fs B L (upd m₁ x (.int (l[i].toNat : Nat) t)) (mu₁ ++ ex) fz₁ s →
      wpAny (model prog w) A (execs body env) (TurnPost B L Q (J (i + 1)) ex fz₁) NE s)
    (done : ∀ m' mu' fz', fz.le fz' → J l.length m' mu' fz' → ∀ s, Fs B L m' mu' fz' s → Q .next s)
    (hL : env.locals = L := by rfl) (hk : env.scope.kind = .function := by rfl) (hl : env.kindOf x = some .local := by rfl) :
    ∀ s, Fs B L m mu fz s → wpAny (model prog w) A (pyIter (.bytes l.toArray t)) (fun it s₂ => codeAny (model prog w) A (.forLoop (.Name x px) it body [] env) (LoopPost prog w A env Q) s₂) NE s := fun s S => by
  subst hL
  refine KBw.pyIter_bytes ?_
  have W := KBw.walks (prog := prog) (w := w) hh s.heap.objs.size l.toArray t
  have e : l.toArray.size = l.length := by simp
  rw [e] at W
  refine loop_walk W J (by simp) (fun i h hs b hb => ?_) ?_ (S.grow (h' := s.heap.push _) (tk := s.toks) fun _ _ e => Heap.get?_push_of_some _ e) hJ S.offNew (fun b hb => .inl hb) ?_ done hk hl
  · rw [List.mem_singleton.mp hb]
    obtain ⟨o, ho, _⟩ := hs
    exact ⟨o, ho⟩
  · exact ⟨_, Heap.get?_push_size _ rfl, rfl, rfl⟩
  · rintro i v m₁ mu₁ fz₁ ex hi ⟨c, t', hc, rfl⟩ hle hJ s S
    have hc' : l[i] = c := by
      have : l.toArray[i]? = some l[i] := by simp [hi]
      rw [this] at hc
      exact Option.some.inj hc
    subst hc'
    exact turn i hi t' m₁ mu₁ fz₁ ex hle hJ s S
/-- a for over a list that stays -/
theorem for_list {x : Str} {px : Pos} {body : List Stmt} {Q : Flow → Shared → Prop} {a : Addr} {o : Obj} {vs : List Value} {n : Nat}
    (J : Nat → (Str → Option Value) → Led → Fz → Prop) (ha : fz a o) (hc : o.cls = .type "list") (hd : o.data = .seq vs.toArray n) (hh : A.handled = none) (hJ : J 0 m mu fz)
    (turn : ∀ (i : Nat) (hi : i < vs.length) m₁ mu₁ fz₁ ex, fz.le fz₁ → J i m₁ mu₁ fz₁ → ∀ s, Fs B L (upd m₁ x vs[i]) (mu₁ ++ ex) fz₁ s →
      wpAny (model prog w) A (execs body env) (TurnPost B L Q (J (i + 1)) ex fz₁) NE s)
    (done : ∀ m' mu' fz', fz.le fz' → J vs.length m' mu' fz' → ∀ s, Fs B L m' mu' fz' s → Q .next s)
    (hL : env.locals = L := by rfl) (hk : env.scope.kind = .function := by rfl) (hl : env.kindOf x = some .local := by rfl) :
    ∀ s, Fs B L m mu fz s → wpAny (model prog w) A (pyIter (.ref a)) (fun it s₂ => codeAny (model prog w) A (.forLoop (.Name x px) it body [] env) (LoopPost prog w A env Q) s₂) NE s := fun s S => by
  subst hL
  have hls : s.heap.IsList a vs.toArray := ⟨o, S.get ha, hc, n, hd⟩
  refine wpAny_pyIter_list hls ?_
  have hne : a ≠ s.heap.objs.size := Nat.ne_of_lt (Heap.lt_size (S.get ha))
  have W := Walks.list (prog := prog) (w := w) hh s.heap.objs.size a hne vs.toArray
  have e : vs.toArray.size = vs.length := by simp
  rw [e] at W
  refine loop_walk W J (by simp) (fun i h hs b hb => ?_) ?_ (S.grow (h' := s.heap.push _) (tk := s.toks) fun _ _ e => Heap.get?_push_of_some _ e) hJ S.offNew (fun b hb => ?_) ?_ done hk hl
  · rw [List.mem_singleton.mp hb]
    obtain ⟨⟨o, ho, _⟩, _⟩ := hs
    exact ⟨o, ho⟩
  · exact ⟨⟨_, Heap.get?_push_size _ rfl, rfl, rfl⟩, hls.push _⟩
  · rcases List.mem_cons.mp hb with rfl | hb
    · exact .inl (by simp)
    · rw [List.mem_singleton.mp hb]; exact .inr ⟨o, ha⟩
  · rintro i v m₁ mu₁ fz₁ ex hi hv hle hJ s S
    have hv' : v = vs[i] := by
      have : vs.toArray[i]? = some vs[i] := by simp [hi]
      have hv2 : vs.toArray[i]? = some v := hv
      rw [this] at hv2
      exact (Option.some.inj hv2).symm
    subst hv'
    exact turn i hi m₁ mu₁ fz₁ ex hle hJ s S
/-- bytes(list of ints) -/
theorem p_bytes {a : Addr} {o : Obj} {vs : List Value} {ns : List Int} {n : Nat} {Q : Value → Shared → Prop} (ha : fz a o ∨ (a, o) ∈ mu) (hc : o.cls = .type "list") (hd : o.data = .seq vs.toArray n) (hi : IntsAre vs ns)
    (hr : ∀ n ∈ ns, 0 ≤ n ∧ n < 256) (hz : vs.length ≤ 1000000) (hh : A.handled = none) (h : ∀ t s, Fs B L m mu fz s → Q (.bytes (byteArr ns) t) s) :
    ∀ s, Fs B L m mu fz s → wpAny (model prog w) A (call (.type "bytes") [.ref a]) Q E s := fun s S =>
  call_bytes_ints ⟨o, ha.elim S.get S.own, hc, n, hd⟩ hi hr (by show _ ≤ 16777216; omega) hh fun h' t k hk => h t _ (S.grow hk)
end
end Mine
end
-- text MVal
section
open PySem PySem.W PyProof.Rows PySem.Calls PySem.SeqAt
set_option Elab.async false
set_option maxRecDepth 100000
namespace Mine

theorem lta_inj {α : Type} {a b : List α} (h : a.toArray = b.toArray) : a = b := by simpa using h
/-- room for frames and compares -/
structure Rm (A : Around) (k : Nat) : Prop where
  hh : A.handled = none
  hd : A.depth + k ≤ 900
  hu : A.units + 3 * k + 100 ≤ 9000
theorem Rm.dn {A : Around} {k : Nat} {env : Env} (r : Rm A (k + 1)) : Rm (A.deeper env) k :=
  ⟨r.hh, by have := r.hd; show A.depth + 1 + k ≤ 900; omega, by have := r.hu; show A.units + 3 + 3 * k + 100 ≤ 9000; omega⟩
theorem Rm.le {A : Around} {k j : Nat} (r : Rm A k) (h : j ≤ k) : Rm A j := ⟨r.hh, by have := r.hd; omega, by have := r.hu; omega⟩
theorem Rm.lt {A : Around} {k : Nat} (r : Rm A (k + 1)) : A.depth < 900 := by have := r.hd; omega
theorem Rm.rl {A : Around} {k : Nat} (r : Rm A (k + 1)) : A.depth < recursionLimit := Nat.lt_trans r.lt (by decide)

theorem EqAt.of_rc {A : Around} {s : Shared} {v w : Value} {b : Bool} (nf : ∀ b t, v ≠ .float b t) (h : RcAt A s v w b) (hs : v = w → b = true) : EqAt A s v w b := fun prog ww E Q hq => by
  unfold eqBool
  refine wpAny_holding ?_
  refine wpAny_ite_split (fun hab => ?_) (fun _ => ?_)
  · have e := hs (eq_of_beq hab)
    subst e
    exact wpAny_bind (wpAny_rule (wpAny_pure hq))
  · have tail : wpAny (model prog ww) A (do truthOfDropped (← richCompare .Eq v w)) Q E s := wpAny_bind (h prog ww E _ (wpAny_truthy_bool hq))
    split
    · rename_i heq
      injection heq with h1 _
      exact absurd h1 (nf _ _)
    · exact tail

/-- the values that stand for data of a kind -/
structure Ty (α : Type) [DecidableEq α] where
  R : Fz → Value → α → Prop
  mono : ∀ {f g : Fz} {v : Value} {x : α}, f.le g → R f v x → R g v x
  nf : ∀ {f : Fz} {v : Value} {x : α}, R f v x → ∀ b t, v ≠ .float b t
  dep : Nat
  uniq : ∀ {f : Fz} {s : Shared} {v : Value} {x y : α}, Fl f s → R f v x → R f v y → x = y
  rc : ∀ {A : Around} {s : Shared} {f : Fz} {v w : Value} {x y : α}, Fl f s → A.units + dep < cLine → R f v x → R f w y → RcAt A s v w (decide (x = y))
theorem Ty.eq {α : Type} [DecidableEq α] (t : Ty α) {A : Around} {s : Shared} {f : Fz} {v w : Value} {x y : α} (hf : Fl f s) (hu : A.units + t.dep < cLine) (h : t.R f v x) (h' : t.R f w y) : EqAt A s v w (decide (x = y)) :=
  EqAt.of_rc (t.nf h) (t.rc hf hu h h') fun e => by subst e; exact decide_eq_true (t.uniq hf h h')

noncomputable def TInt : Ty Int where
  R := fun _ v x => ∃ t, v = .int x t
  mono := fun _ h => h
  nf := fun h b t e => by obtain ⟨u, rfl⟩ := h; cases e
  dep := 0
  uniq := by rintro f s v x y - ⟨t, rfl⟩ ⟨u, e⟩; injection e
  rc := by
    rintro A s f v w x y - - ⟨t, rfl⟩ ⟨u, rfl⟩
    have := RcAt.int_int (A := A) (s := s) x t y u
    have e : (x == y) = decide (x = y) := by rw [Bool.eq_iff_iff]; simp
    rw [← e]; exact this
noncomputable def TBool : Ty Bool where
  R := fun _ v x => v = .bool x
  mono := fun _ h => h
  nf := fun h b t e => by subst h; cases e
  dep := 0
  uniq := by rintro f s v x y - rfl e; injection e
  rc := by
    rintro A s f v w x y - - rfl rfl
    have := RcAt.bool_bool (A := A) (s := s) x y
    have e : (x == y) = decide (x = y) := by rw [Bool.eq_iff_iff]; simp
    rw [← e]; exact this
noncomputable def TBy : Ty (List UInt8) where
  R := fun _ v x => ∃ t, v = .bytes x.toArray t
  mono := fun _ h => h
  nf := fun h b t e => by obtain ⟨u, rfl⟩ := h; cases e
  dep := 0
  uniq := by rintro f s v x y - ⟨t, rfl⟩ ⟨u, e⟩; injection e with e _; exact lta_inj e
  rc := by
    rintro A s f v w x y - - ⟨t, rfl⟩ ⟨u, rfl⟩
    intro prog ww E Q hq
    have e : (x.toArray.toList == y.toArray.toList) = decide (x = y) := by rw [Bool.eq_iff_iff]; simp
    rw [← e] at hq
    exact eq_bytes hq

inductive Al {α : Type} (R : Value → α → Prop) : List Value → List α → Prop
  | nil : Al R [] []
  | cons {v : Value} {x : α} {vs : List Value} {xs : List α} : R v x → Al R vs xs → Al R (v :: vs) (x :: xs)
namespace Al
variable {α : Type} {R R' : Value → α → Prop}
theorem length : ∀ {vs : List Value} {xs : List α}, Al R vs xs → vs.length = xs.length
  | _, _, .nil => rfl
  | _, _, .cons _ h => by simp [h.length]
theorem append : ∀ {vs ws : List Value} {xs ys : List α}, Al R vs xs → Al R ws ys → Al R (vs ++ ws) (xs ++ ys)
  | _, _, _, _, .nil, h => h
  | _, _, _, _, .cons r h, h' => .cons r (h.append h')
theorem snoc {vs : List Value} {xs : List α} {v : Value} {x : α} (h : Al R vs xs) (r : R v x) : Al R (vs ++ [v]) (xs ++ [x]) := h.append (.cons r .nil)
theorem mono (hm : ∀ v x, R v x → R' v x) : ∀ {vs : List Value} {xs : List α}, Al R vs xs → Al R' vs xs
  | _, _, .nil => .nil
  | _, _, .cons r h => .cons (hm _ _ r) (h.mono hm)
theorem get : ∀ {vs : List Value} {xs : List α} {i : Nat} (h1 : i < vs.length) (h2 : i < xs.length), Al R vs xs → R vs[i] xs[i]
  | _, _, 0, _, _, .cons r _ => r
  | _, _, i + 1, h1, h2, .cons _ h => h.get (Nat.lt_of_succ_lt_succ h1) (Nat.lt_of_succ_lt_succ h2)
theorem take : ∀ {vs : List Value} {xs : List α} (n : Nat), Al R vs xs → Al R (vs.take n) (xs.take n)
  | _, _, 0, _ => by simp only [List.take_zero]; exact .nil
  | _, _, n + 1, .nil => by simp only [List.take_nil]; exact .nil
  | _, _, n + 1, .cons r h => by simp only [List.take_succ_cons]; exact .cons r (h.take n)
theorem drop : ∀ {vs : List Value} {xs : List α} (n : Nat), Al R vs xs → Al R (vs.drop n) (xs.drop n)
  | _, _, 0, h => h
  | _, _, n + 1, .nil => by simp only [List.drop_nil]; exact .nil
  | _, _, n + 1, .cons r h => by simp only [List.drop_succ_cons]; exact h.drop n
theorem reverse {vs : List Value} {xs : List α} (h : Al R vs xs) : Al R vs.reverse xs.reverse := by
  induction h with
  | nil => exact .nil
  | cons r _ ih => simp only [List.reverse_cons]; exact ih.snoc r
theorem set : ∀ {vs : List Value} {xs : List α} {v : Value} {x : α} (n : Nat), Al R vs xs → R v x → Al R (vs.set n v) (xs.set n x)
  | _, _, _, _, _, .nil, _ => by simp only [List.set_nil]; exact .nil
  | _, _, _, _, 0, .cons _ h, r => by simp only [List.set_cons_zero]; exact .cons r h
  | _, _, _, _, n + 1, .cons r' h, r => by simp only [List.set_cons_succ]; exact .cons r' (h.set n r)
theorem eraseIdx : ∀ {vs : List Value} {xs : List α} (n : Nat), Al R vs xs → Al R (vs.eraseIdx n) (xs.eraseIdx n)
  | _, _, _, .nil => by simp only [List.eraseIdx_nil]; exact .nil
  | _, _, 0, .cons _ h => h
  | _, _, n + 1, .cons r h => by simp only [List.eraseIdx_cons_succ]; exact .cons r (h.eraseIdx n)
theorem dropLast {vs : List Value} {xs : List α} (h : Al R vs xs) : Al R vs.dropLast xs.dropLast := by
  rw [List.dropLast_eq_take, List.dropLast_eq_take, h.length]; exact h.take _
end Al
theorem Al.ints {vs : List Value} {ns : List Int} {f : Fz} (h : Al (TInt.R f) vs ns) : IntsAre vs ns := by
  induction h with
  | nil => exact .nil
  | cons r _ ih => obtain ⟨t, rfl⟩ := r; exact .cons _ t ih

theorem Fl.uniq {f : Fz} {s : Shared} {a : Addr} {o o' : Obj} (h : Fl f s) (h1 : f a o) (h2 : f a o') : o = o' := by
  have e1 := h _ _ h1
  have e2 := h _ _ h2
  rw [e1] at e2; exact Option.some.inj e2
theorem Al.uniq {α : Type} {R : Value → α → Prop} (hu : ∀ v x y, R v x → R v y → x = y) : ∀ {vs : List Value} {xs ys : List α}, Al R vs xs → Al R vs ys → xs = ys
  | _, _, _, .nil, .nil => rfl
  | _, _, _, .cons r h, .cons r' h' => by rw [hu _ _ _ r r', h.uniq hu h']
theorem all_range {α : Type} [DecidableEq α] {xs ys : List α} (d : α) (h : xs.length = ys.length) : (List.range xs.length).all (fun j => decide (xs.getD j d = ys.getD j d)) = decide (xs = ys) := by
  rw [Bool.eq_iff_iff, List.all_eq_true, decide_eq_true_eq]
  constructor
  · intro H
    apply List.ext_getElem h
    intro i h1 h2
    have := of_decide_eq_true (H i (List.mem_range.mpr h1))
    simpa [h1, h2] using this
  · intro e x _
    subst e
    simp

noncomputable def LsR {α : Type} [DecidableEq α] (t : Ty α) (f : Fz) (v : Value) (xs : List α) : Prop := ∃ a n vs, v = .ref a ∧ f a (listOf vs.toArray n) ∧ Al (t.R f) vs xs
theorem LsR.isList {α : Type} [DecidableEq α] {t : Ty α} {f : Fz} {s : Shared} {a : Addr} {n : Nat} {vs : List Value} (hf : Fl f s) (h : f a (listOf vs.toArray n)) : s.heap.IsList a vs.toArray := ⟨_, hf _ _ h, rfl, n, rfl⟩
theorem listRc {α : Type} [DecidableEq α] (t : Ty α) {A : Around} {s : Shared} {f : Fz} {a b : Addr} {vs ws : List Value} {xs ys : List α} (hf : Fl f s) (hu : A.units + (t.dep + 1) < cLine)
    (h1 : s.heap.IsList a vs.toArray) (h2 : Al (t.R f) vs xs) (k1 : s.heap.IsList b ws.toArray) (k2 : Al (t.R f) ws ys) : RcAt A s (.ref a) (.ref b) (decide (xs = ys)) := by
  have l1 := h2.length
  have l2 := k2.length
  by_cases hl : vs.length = ws.length
  · cases hx : xs with
    | nil =>
      subst hx
      have hy : ys = [] := List.eq_nil_of_length_eq_zero (by rw [← l2, ← hl, l1]; rfl)
      subst hy
      have hv : vs = [] := List.eq_nil_of_length_eq_zero l1
      have := RcAt.lists (A := A) (e := fun _ => true) h1 k1 (by simp [hl]) (by omega) (fun j j1 _ => by rw [hv] at j1; exact absurd j1 (by simp))
      simpa [hv] using this
    | cons d xs' =>
      rw [← hx, ← all_range d (by omega : xs.length = ys.length), ← l1]
      have hs : vs.toArray.size = vs.length := by simp
      rw [← hs]
      refine RcAt.lists h1 k1 (by simp [hl]) (by omega) fun j j1 j2 => ?_
      have j1' : j < xs.length := by simpa [l1] using j1
      have j2' : j < ys.length := by simpa [l2] using j2
      have := t.eq (A := A.in1) hf (by have := hu; show A.units + 1 + t.dep < cLine; omega) (h2.get (i := j) (by simpa using j1) j1') (k2.get (i := j) (by simpa using j2) j2')
      simpa [j1', j2'] using this
  · have hne : xs ≠ ys := fun e => hl (by rw [l1, l2, e])
    rw [decide_eq_false hne]
    exact RcAt.lists_lengths h1 k1 (by simpa using hl) (by omega)
noncomputable def TList {α : Type} [DecidableEq α] (t : Ty α) : Ty (List α) where
  R := LsR t
  mono := by rintro f g v x h ⟨a, n, vs, rfl, ha, hal⟩; exact ⟨a, n, vs, rfl, h _ _ ha, hal.mono fun _ _ r => t.mono h r⟩
  nf := fun h b t e => by obtain ⟨u, _, _, rfl, _⟩ := h; cases e
  dep := t.dep + 1
  uniq := by
    rintro f s v x y hf ⟨a, n, vs, rfl, ha, h⟩ ⟨b, m, ws, e, hb, h'⟩
    injection e with e
    subst e
    have e := hf.uniq ha hb
    simp only [W.listOf, Obj.mk.injEq, Data.seq.injEq, true_and, and_true] at e
    have e2 : vs = ws := lta_inj e.1
    subst e2
    exact h.uniq (R := t.R f) (fun v x y h1 h2 => t.uniq hf h1 h2) h'
  rc := by
    rintro A s f v w x y hf hu ⟨a, n, vs, rfl, ha, h⟩ ⟨b, m, ws, rfl, hb, h'⟩
    exact listRc t hf hu (LsR.isList (t := t) hf ha) h (LsR.isList (t := t) hf hb) h'
noncomputable abbrev tupOf (vs : Array Value) : Obj := { cls := .type "tuple", data := .seq vs }
noncomputable def TTup {α β : Type} [DecidableEq α] [DecidableEq β] (t : Ty α) (u : Ty β) : Ty (α × β) where
  R := fun f v x => ∃ a p q, v = .ref a ∧ f a (tupOf #[p, q]) ∧ t.R f p x.1 ∧ u.R f q x.2
  mono := by rintro f g v x h ⟨a, p, q, rfl, ha, h1, h2⟩; exact ⟨a, p, q, rfl, h _ _ ha, t.mono h h1, u.mono h h2⟩
  nf := fun h b t e => by obtain ⟨u, _, _, rfl, _⟩ := h; cases e
  dep := t.dep + u.dep + 1
  uniq := by
    rintro f s v ⟨x1, x2⟩ ⟨y1, y2⟩ hf ⟨a, p, q, rfl, ha, h1, h2⟩ ⟨b, p', q', e, hb, k1, k2⟩
    injection e with e
    subst e
    have e := hf.uniq ha hb
    simp only [tupOf, Obj.mk.injEq, Data.seq.injEq, true_and, and_true] at e
    have e2 : [p, q] = [p', q'] := lta_inj e
    injection e2 with e3 e4
    injection e4 with e4 _
    subst e3 e4
    have e5 := t.uniq hf h1 k1; have e6 := u.uniq hf h2 k2; dsimp only at e5 e6; rw [e5, e6]
  rc := by
    rintro A s f v w ⟨x1, x2⟩ ⟨y1, y2⟩ hf hu ⟨a, p, q, rfl, ha, h1, h2⟩ ⟨b, p', q', rfl, hb, k1, k2⟩
    have i1 : s.heap.IsTuple a #[p, q] := ⟨_, hf _ _ ha, rfl, _, rfl⟩
    have i2 : s.heap.IsTuple b #[p', q'] := ⟨_, hf _ _ hb, rfl, _, rfl⟩
    have e1 := t.eq (A := A.in1) hf (by have := hu; show A.units + 1 + t.dep < cLine; omega) h1 k1
    have e2 := u.eq (A := A.in1) hf (by show A.units + 1 + u.dep < cLine; omega) h2 k2
    have := RcAt.tuples (A := A) (e := fun j => if j = 0 then decide (x1 = y1) else decide (x2 = y2)) i1 i2 (by omega) (fun j j1 j2 => by
      match j, j1, j2 with
      | 0, _, _ => exact e1
      | 1, _, _ => exact e2)
    have e3 : ((List.range (min (#[p, q] : Array Value).size (#[p', q'] : Array Value).size)).all (fun j => if j = 0 then decide (x1 = y1) else decide (x2 = y2)) && (#[p, q] : Array Value).size == (#[p', q'] : Array Value).size) = decide ((x1, x2) = (y1, y2)) := by
      show ([0, 1].all (fun j => if j = 0 then decide (x1 = y1) else decide (x2 = y2)) && true) = _
      rw [Bool.eq_iff_iff]; simp
    rw [e3] at this
    exact this
theorem listNe {α : Type} [DecidableEq α] (t : Ty α) {A : Around} {s : Shared} {f : Fz} {v w : Value} {xs ys : List α} (hf : Fl f s) (hu : A.units + (t.dep + 1) < cLine)
    (h : (TList t).R f v xs) (k : (TList t).R f w ys) : RcNeAt A s v w (!decide (xs = ys)) := by
  obtain ⟨a, n, vs, rfl, ha, h2⟩ := h
  obtain ⟨b, m, ws, rfl, hb, k2⟩ := k
  have h1 := LsR.isList (t := t) hf ha
  have k1 := LsR.isList (t := t) hf hb
  have l1 := h2.length
  have l2 := k2.length
  by_cases hl : vs.length = ws.length
  · cases hx : xs with
    | nil =>
      subst hx
      have hy : ys = [] := List.eq_nil_of_length_eq_zero (by rw [← l2, ← hl, l1]; rfl)
      subst hy
      have hv : vs = [] := List.eq_nil_of_length_eq_zero l1
      have := RcNeAt.lists (A := A) (e := fun _ => true) h1 k1 (by simp [hl]) (by omega) (fun j j1 _ => by rw [hv] at j1; exact absurd j1 (by simp))
      simpa [hv] using this
    | cons d xs' =>
      rw [← hx, ← all_range d (by omega : xs.length = ys.length), ← l1]
      have hs : vs.toArray.size = vs.length := by simp
      rw [← hs]
      refine RcNeAt.lists h1 k1 (by simp [hl]) (by omega) fun j j1 j2 => ?_
      have j1' : j < xs.length := by simpa [l1] using j1
      have j2' : j < ys.length := by simpa [l2] using j2
      have := t.eq (A := A.in1) hf (by have := hu; show A.units + 1 + t.dep < cLine; omega) (h2.get (i := j) (by simpa using j1) j1') (k2.get (i := j) (by simpa using j2) j2')
      simpa [j1', j2'] using this
  · have hne : xs ≠ ys := fun e => hl (by rw [l1, l2, e])
    rw [decide_eq_false hne]
    exact RcNeAt.lists_lengths h1 k1 (by simpa using hl) (by omega)
theorem tupNe {α β : Type} [DecidableEq α] [DecidableEq β] (t : Ty α) (u : Ty β) {A : Around} {s : Shared} {f : Fz} {v w : Value} {x y : α × β} (hf : Fl f s) (hu : A.units + (t.dep + u.dep + 1) < cLine)
    (h : (TTup t u).R f v x) (k : (TTup t u).R f w y) : RcNeAt A s v w (!decide (x = y)) := by
  obtain ⟨a, p, q, rfl, ha, h1, h2⟩ := h
  obtain ⟨b, p', q', rfl, hb, k1, k2⟩ := k
  obtain ⟨x1, x2⟩ := x
  obtain ⟨y1, y2⟩ := y
  have i1 : s.heap.IsTuple a #[p, q] := ⟨_, hf _ _ ha, rfl, _, rfl⟩
  have i2 : s.heap.IsTuple b #[p', q'] := ⟨_, hf _ _ hb, rfl, _, rfl⟩
  have e1 := t.eq (A := A.in1) hf (by have := hu; show A.units + 1 + t.dep < cLine; omega) h1 k1
  have e2 := u.eq (A := A.in1) hf (by show A.units + 1 + u.dep < cLine; omega) h2 k2
  have := RcNeAt.tuples (A := A) (e := fun j => if j = 0 then decide (x1 = y1) else decide (x2 = y2)) i1 i2 (by omega) (fun j j1 j2 => by
    match j, j1, j2 with
    | 0, _, _ => exact e1
    | 1, _, _ => exact e2)
  have e3 : ((List.range (min (#[p, q] : Array Value).size (#[p', q'] : Array Value).size)).all (fun j => if j = 0 then decide (x1 = y1) else decide (x2 = y2)) && (#[p, q] : Array Value).size == (#[p', q'] : Array Value).size) = decide ((x1, x2) = (y1, y2)) := by
    show ([0, 1].all (fun j => if j = 0 then decide (x1 = y1) else decide (x2 = y2)) && true) = _
    rw [Bool.eq_iff_iff]; simp
  rw [e3] at this
  exact this
section
variable {prog : Program} {w : World} {A : Around} {E : Value → Shared → Prop} {env : Env} {B : Bs} {L : Addr} {m : Str → Option Value} {mu : Led} {fz fz' : Fz} {mg mb : Str → Option Value} {t u : Tok}
theorem Fs.fl {s : Shared} (S : Fs B L m mu fz s) : Fl fz s := fun _ _ e => S.get e
theorem p_eq {α : Type} [DecidableEq α] (t : Ty α) {v v' : Value} {x y : α} {k : Nat} {Q : Value → Shared → Prop} (hA : Rm A k) (hdp : t.dep ≤ 100) (h1 : t.R fz v x) (h2 : t.R fz v' y)
    (h : ∀ s, Fs B L m mu fz s → Q (.bool (decide (x = y))) s) : ∀ s, Fs B L m mu fz s → wpAny (model prog w) A (compareOp .Eq v v') Q E s := fun s S =>
  t.rc S.fl (by have := hA.hu; unfold cLine; omega) h1 h2 prog w E Q (h s S)
theorem p_neL {α : Type} [DecidableEq α] (t : Ty α) {v v' : Value} {x y : List α} {k : Nat} {Q : Value → Shared → Prop} (hA : Rm A k) (hdp : t.dep ≤ 90) (h1 : (TList t).R fz v x) (h2 : (TList t).R fz v' y)
    (h : ∀ s, Fs B L m mu fz s → Q (.bool (!decide (x = y))) s) : ∀ s, Fs B L m mu fz s → wpAny (model prog w) A (compareOp .NotEq v v') Q E s := fun s S =>
  listNe t S.fl (by have := hA.hu; unfold cLine; omega) h1 h2 prog w E Q (h s S)
theorem p_neT {α β : Type} [DecidableEq α] [DecidableEq β] (t : Ty α) (t' : Ty β) {v v' : Value} {x y : α × β} {k : Nat} {Q : Value → Shared → Prop} (hA : Rm A k) (hdp : t.dep + t'.dep ≤ 90) (h1 : (TTup t t').R fz v x) (h2 : (TTup t t').R fz v' y)
    (h : ∀ s, Fs B L m mu fz s → Q (.bool (!decide (x = y))) s) : ∀ s, Fs B L m mu fz s → wpAny (model prog w) A (compareOp .NotEq v v') Q E s := fun s S =>
  tupNe t t' S.fl (by have := hA.hu; unfold cLine; omega) h1 h2 prog w E Q (h s S)
noncomputable def valOf {α : Type} [DecidableEq α] (t : Ty α) (d : α) (f : Fz) (v : Value) : α := open Classical in if h : ∃ x, t.R f v x then h.choose else d
theorem valOf_eq {α : Type} [DecidableEq α] {t : Ty α} {d : α} {f : Fz} {v : Value} {x : α} {s : Shared} (hf : Fl f s) (h : t.R f v x) : valOf t d f v = x := by
  unfold valOf
  have hx : ∃ x, t.R f v x := ⟨x, h⟩
  rw [dif_pos hx]
  exact t.uniq hf hx.choose_spec h
theorem Al.mem {α : Type} {R : Value → α → Prop} : ∀ {vs : List Value} {xs : List α}, Al R vs xs → ∀ v ∈ vs, ∃ x ∈ xs, R v x
  | _, _, .cons r h, v, hv => by
    rcases List.mem_cons.mp hv with rfl | hv
    · exact ⟨_, List.mem_cons_self, r⟩
    · obtain ⟨x, hx, r⟩ := h.mem v hv
      exact ⟨x, List.mem_cons_of_mem _ hx, r⟩
theorem Al.map_val {α : Type} [DecidableEq α] {t : Ty α} {d : α} {f : Fz} {s : Shared} (hf : Fl f s) : ∀ {vs : List Value} {xs : List α}, Al (t.R f) vs xs → vs.map (valOf t d f) = xs
  | _, _, .nil => rfl
  | _, _, .cons r h => by rw [List.map_cons, valOf_eq hf r, h.map_val hf]
/-- the items of a list against a value -/
theorem Al.eqs {α : Type} [DecidableEq α] {t : Ty α} {f : Fz} {s : Shared} {vs : List Value} {xs : List α} {v : Value} {x : α} (hf : Fl f s) (h : Al (t.R f) vs xs) (hx : t.R f v x) (hu : A.units + t.dep < cLine) :
    ∀ y, y ∈ vs.toArray → EqAt A s y v (decide (valOf t x f y = x)) := fun y hy => by
  obtain ⟨z, _, r⟩ := h.mem y (by simpa using hy)
  rw [valOf_eq hf r]
  exact t.eq hf hu r hx
theorem p_in {α : Type} [DecidableEq α] (t : Ty α) {a : Addr} {n : Nat} {vs : List Value} {v : Value} {x : α} {xs : List α} {k : Nat} {Q : Value → Shared → Prop} (hA : Rm A k) (hdp : t.dep ≤ 90)
    (ha : fz a (listOf vs.toArray n) ∨ (a, listOf vs.toArray n) ∈ mu) (h1 : Al (t.R fz) vs xs) (h2 : t.R fz v x)
    (h : ∀ s, Fs B L m mu fz s → Q (.bool (decide (x ∈ xs))) s) : ∀ s, Fs B L m mu fz s → wpAny (model prog w) A (compareOp .In v (.ref a)) Q E s := fun s S => by
  refine in_listAt _ ⟨_, ha.elim S.get S.own, rfl, n, rfl⟩ (h1.eqs (A := A.in1) S.fl h2 (by have := hA.hu; show A.units + 1 + _ < _; unfold cLine; omega)) ?_
  have e : (vs.toArray.any fun y => decide (valOf t x fz y = x)) = decide (x ∈ xs) := by
    rw [← h1.map_val (d := x) S.fl, Bool.eq_iff_iff]; simp
  rw [e]; exact h s S
theorem p_notIn {α : Type} [DecidableEq α] (t : Ty α) {a : Addr} {n : Nat} {vs : List Value} {v : Value} {x : α} {xs : List α} {k : Nat} {Q : Value → Shared → Prop} (hA : Rm A k) (hdp : t.dep ≤ 90)
    (ha : fz a (listOf vs.toArray n) ∨ (a, listOf vs.toArray n) ∈ mu) (h1 : Al (t.R fz) vs xs) (h2 : t.R fz v x)
    (h : ∀ s, Fs B L m mu fz s → Q (.bool (!decide (x ∈ xs))) s) : ∀ s, Fs B L m mu fz s → wpAny (model prog w) A (compareOp .NotIn v (.ref a)) Q E s := fun s S => by
  refine notIn_listAt _ ⟨_, ha.elim S.get S.own, rfl, n, rfl⟩ (h1.eqs (A := A.in1) S.fl h2 (by have := hA.hu; show A.units + 1 + _ < _; unfold cLine; omega)) ?_
  have e : (vs.toArray.any fun y => decide (valOf t x fz y = x)) = decide (x ∈ xs) := by
    rw [← h1.map_val (d := x) S.fl, Bool.eq_iff_iff]; simp
  rw [e]; exact h s S
theorem p_count {α : Type} [DecidableEq α] (t : Ty α) {a : Addr} {n : Nat} {vs : List Value} {v : Value} {x : α} {xs : List α} {k : Nat} {Q : Value → Shared → Prop} (hA : Rm A k) (hdp : t.dep ≤ 90)
    (ha : fz a (listOf vs.toArray n) ∨ (a, listOf vs.toArray n) ∈ mu) (h1 : Al (t.R fz) vs xs) (h2 : t.R fz v x)
    (h : ∀ tk s, Fs B L m mu fz s → Q (.int (xs.countP (fun y => decide (y = x)) : Nat) tk) s) : ∀ s, Fs B L m mu fz s → wpAny (model prog w) A (call (.builtin "list.count") [.ref a, v]) Q E s := fun s S => by
  have ho := ha.elim S.get S.own
  refine call_meets PySem.F.slot_list_count ⟨_, ho, rfl⟩ PySem.F.entry_list_count (PySem.F.args_list_count_2 _ _) (list_countAt a vs.toArray n none #[] v _) ⟨ho, h1.eqs (A := A.in1) S.fl h2 (by have := hA.hu; show A.units + 1 + _ < _; unfold cLine; omega), ?_⟩
  have e : (vs.toArray.toList.countP fun y => decide (valOf t x fz y = x)) = xs.countP (fun y => decide (y = x)) := by
    rw [← h1.map_val (d := x) S.fl, List.countP_map]; rfl
  rw [e]
  exact h _ _ S.toks
end
end Mine
end
-- text MGen
section
open PySem PySem.W PyProof.Rows PySem.Calls PySem.SeqAt
set_option Elab.async false
set_option maxRecDepth 100000
set_option linter.unusedVariables false
namespace Mine

noncomputable def BindW (M : Model) (A : Around) (env : Env) (E : Value → Shared → Prop) : List Str → List Value → (Unit → Shared → Prop) → Shared → Prop
  | x :: xs, v :: vs, Q, s => wpAny M A (storeName env x v) (fun _ s' => BindW M A env E xs vs Q s') E s
  | _, _, Q, s => Q () s
noncomputable def bindM (m : Str → Option Value) : List Str → List Value → (Str → Option Value)
  | x :: xs, v :: vs => bindM (upd m x v) xs vs
  | _, _ => m

/-- a thing to go through, its targets told -/
structure Gw (prog : Program) (w : World) (A : Around) (tgt : Expr) (xs : List Str) (I : Addr) (fp wr : List Addr) (n : Nat) (Vals : Nat → List Value → Prop) (St : Nat → Heap → Prop) : Prop where
  sub : ∀ b ∈ wr, b ∈ fp
  frame : ∀ i h h', St i h → (∀ b ∈ fp, ∀ o, h.get? b = some o → h'.get? b = some o) → St i h'
  item : ∀ i (s : Shared) (env : Env) (Q : Unit → Shared → Prop) (E : Value → Shared → Prop), i < n → St i s.heap →
    (∀ vals h' tk, Vals i vals → St (i + 1) h' → (∀ b o, b ∉ wr → s.heap.get? b = some o → h'.get? b = some o) → BindW (model prog w) A env E xs vals Q { s with heap := h', toks := tk }) →
    wpAny (model prog w) A (pyNext (.ref I)) (fun r s' => match r with | none => False | some v => wpAny (model prog w) A (letOwnedTupleGo tgt (.ref I) v) (fun _ s'' => wpAny (model prog w) A (assign tgt env v) Q E s'') E s') E s
  done : ∀ (s : Shared) (Q : Option Value → Shared → Prop) (E : Value → Shared → Prop), St n s.heap →
    (∀ h' tk, (∀ b o, b ∉ wr → s.heap.get? b = some o → h'.get? b = some o) → Q none { s with heap := h', toks := tk }) → wpAny (model prog w) A (pyNext (.ref I)) Q E s
  self : ∀ i (s : Shared) (Q : Value → Shared → Prop) (E : Value → Shared → Prop), St i s.heap → Q (.ref I) s → wpAny (model prog w) A (pyIter (.ref I)) Q E s

theorem Gw.item' {prog : Program} {w : World} {A : Around} {tgt : Expr} {xs : List Str} {I : Addr} {fp wr : List Addr} {n : Nat} {Vals : Nat → List Value → Prop} {St : Nat → Heap → Prop} (W : Gw prog w A tgt xs I fp wr n Vals St)
    {i : Nat} {s : Shared} {env : Env} {Q : Unit → Shared → Prop} {E : Value → Shared → Prop} {Qn : Option Value → Shared → Prop} (hi : i < n) (hst : St i s.heap)
    (hq : ∀ v s', wpAny (model prog w) A (letOwnedTupleGo tgt (.ref I) v) (fun _ s'' => wpAny (model prog w) A (assign tgt env v) Q E s'') E s' → Qn (some v) s')
    (h : ∀ vals h' tk, Vals i vals → St (i + 1) h' → (∀ b o, b ∉ wr → s.heap.get? b = some o → h'.get? b = some o) → BindW (model prog w) A env E xs vals Q { s with heap := h', toks := tk }) :
    wpAny (model prog w) A (pyNext (.ref I)) Qn E s :=
  wpAny_mono (W.item i s env Q E hi hst h) (fun r s' hr => by cases r with | none => exact hr.elim | some v => exact hq v s' hr) fun _ _ e => e
theorem Gw.ofWalks {prog : Program} {w : World} {A : Around} {I : Addr} {fp wr : List Addr} {n : Nat} {P : Nat → Value → Prop} {St : Nat → Heap → Prop} (W : Walks prog w A I fp wr n P St) (x : Str) (px : Pos) :
    Gw prog w A (.Name x px) [x] I fp wr n (fun i vals => ∃ v, vals = [v] ∧ P i v) St where
  sub := W.sub
  frame := W.frame
  item := fun i s env Q E hi hst h => W.item i s _ _ hi hst fun v h' tk hP hst' hk =>
    wpAny_pure (wpAny_assign_Name (h [v] h' tk ⟨v, rfl, hP⟩ hst' hk))
  done := W.done
  self := W.self
theorem assignTwo {prog : Program} {w : World} {A : Around} {env : Env} {x y : Str} {px py : Pos} {v u : Value} {Q : Unit → Shared → Prop} {E : Value → Shared → Prop} {s : Shared}
    (h : BindW (model prog w) A env E [x, y] [v, u] Q s) : wpAny (model prog w) A (assignInOrder ((assignEach [.Name x px, .Name y py] env).map (·.2)) [v, u]) Q E s :=
  assignInOrder_cons (wpAny_assign_Name (wpAny_mono h (fun _ s' h' => assignInOrder_cons (wpAny_assign_Name (wpAny_mono h' (fun _ s'' h'' => assignInOrder_nil h'') fun _ _ e => e))) fun _ _ e => e))
theorem Gw.ofWalksU {prog : Program} {w : World} {A : Around} {I : Addr} {fp wr : List Addr} {n : Nat} {Pt : Nat → Array Value → Prop} {St : Nat → Heap → Prop} {Mid : Nat → Addr → Heap → Prop} (hh : A.handled = none) (W : WalksU prog w A I fp wr n Pt St Mid)
    (x y : Str) (px py pos : Pos) (k : Nat) (h2 : ∀ i a, Pt i a → ∃ v u, a = #[v, u])
    (hfr : ∀ i h h', St i h → (∀ b o, b < h.objs.size → h.get? b = some o → h'.get? b = some o) → St i h') :
    Gw prog w A (.Tuple [.Name x px, .Name y py] k pos) [x, y] I fp wr n (fun i vals => Pt i vals.toArray) St where
  sub := W.sub
  frame := W.frame
  item := fun i s env Q E hi hst h => W.item i s _ _ hi hst fun T vals h' tk hP hT hM hk => by
    refine W.go _ _ _ i T _ _ _ hM fun h'' hst'' hk'' => ?_
    obtain ⟨v, u, rfl⟩ := h2 _ _ hP
    have hT'' : h''.IsTuple T #[v, u] := hT.at fun o e => hk'' _ o (W.apart i T h' hM) e
    refine wpAny_assign_Tuple hh hT'' rfl rfl fun h3 he => ?_
    have hst3 : St (i + 1) h3 := hfr _ _ _ hst'' fun b o hb e => he b o (Nat.ne_of_lt hb) e
    exact assignTwo (h [v, u] h3 tk hP hst3 fun b o hb e => he b o (Nat.ne_of_lt (Heap.lt_size (hk'' b o hb (hk b o hb e)))) (hk'' b o hb (hk b o hb e)))
  done := W.done
  self := W.self

section
variable {prog : Program} {w : World} {A : Around} {E : Value → Shared → Prop} {env : Env} {B : Bs} {L : Addr} {m : Str → Option Value} {mu : Led} {fz fz' : Fz} {mg mb : Str → Option Value} {t u : Tok}
/-- names of the frame are bound in turn -/
theorem bindFs {xs : List Str} {vals : List Value} {Q : Unit → Shared → Prop} (hlen : vals.length = xs.length) (h : ∀ s, Fs B L (bindM m xs vals) mu fz s → Q () s) (hL : env.locals = L) (hk : env.scope.kind = .function) (hl : ∀ x ∈ xs, env.kindOf x = some .local) :
    ∀ s, Fs B L m mu fz s → BindW (model prog w) A env E xs vals Q s := by
  induction xs generalizing vals m with
  | nil => cases vals with | nil => exact h | cons v vs => cases hlen
  | cons x xs ih =>
    cases vals with
    | nil => cases hlen
    | cons v vs => exact store (ih (by simpa using hlen) h fun y hy => hl y (List.mem_cons_of_mem _ hy)) hL hk (hl x List.mem_cons_self)

theorem Fs.offEx {s : Shared} {ex0 : Led} (S : Fs B L m (ex0 ++ mu) fz s) : ∀ b ∈ ex0.map (·.1), b ≠ L ∧ b ∉ mu.map (·.1) ∧ (∀ o, ¬ fz b o) ∧ B.s0.heap.get? b = none := by
  intro b hb
  obtain ⟨p, hp, rfl⟩ := List.mem_map.mp hb
  have hm := S.mus p (List.mem_append.mpr (.inl hp))
  refine ⟨hm.2.1, fun hb' => ?_, hm.2.2.1, hm.2.2.2⟩
  have nd := S.nd
  rw [List.map_append, List.nodup_append] at nd
  exact nd.2.2 _ hb _ hb' rfl

theorem gfor {tgt : Expr} {xs : List Str} {body : List Stmt} {Q : Flow → Shared → Prop} {I : Addr} {fp wr : List Addr} {n : Nat} {Vals : Nat → List Value → Prop} {SI : Nat → Heap → Prop} {ex0 : Led}
    (W : Gw prog w A tgt xs I fp wr n Vals SI) (J : Nat → (Str → Option Value) → Led → Fz → Prop) (e0 : ex0.map (·.1) = wr) (live : ∀ i h, SI i h → ∀ b ∈ wr, ∃ o, h.get? b = some o)
    (h0 : ∀ s, Fs B L m (ex0 ++ mu) fz s → SI 0 s.heap) (hJ : J 0 m mu fz) (hfp : ∀ b ∈ fp, b ∈ wr ∨ ∃ o, fz b o) (hlen : ∀ i vals, Vals i vals → vals.length = xs.length)
    (turn : ∀ i vals m₁ mu₁ fz₁ ex, i < n → Vals i vals → fz.le fz₁ → J i m₁ mu₁ fz₁ → ∀ s, Fs B L (bindM m₁ xs vals) (mu₁ ++ ex) fz₁ s →
      wpAny (model prog w) A (execs body env) (TurnPost B L Q (J (i + 1)) ex fz₁) NE s)
    (done : ∀ m' mu' fz', fz.le fz' → J n m' mu' fz' → ∀ s, Fs B L m' mu' fz' s → Q .next s)
    (hL : env.locals = L := by rfl) (hk : env.scope.kind = .function := by rfl) (hl : ∀ x ∈ xs, env.kindOf x = some .local := by decide) :
    ∀ s, Fs B L m (ex0 ++ mu) fz s → codeAny (model prog w) A (.forLoop tgt (.ref I) body [] env) (LoopPost prog w A env Q) s := fun s S0 => by
  subst hL
  have nd : wr.Nodup := by
    have := S0.nd
    rw [List.map_append, List.nodup_append, e0] at this
    exact this.1
  refine codeAny_forLoop_any (fun k s' => ∃ i m' mu' fz', k = n + 1 - i ∧ i ≤ n ∧ SI i s'.heap ∧ fz.le fz' ∧ J i m' mu' fz' ∧ Fs B env.locals m' mu' fz' s' ∧
      (∀ b ∈ wr, b ≠ env.locals ∧ b ∉ mu'.map (·.1) ∧ (∀ o, ¬ fz' b o) ∧ B.s0.heap.get? b = none)) ?_ (n + 1) ⟨0, m, mu, fz, rfl, Nat.zero_le _, h0 s S0, Fz.le_refl _, hJ, S0.sub (List.sublist_append_right ..), e0 ▸ S0.offEx⟩
  rintro k s' ⟨i, m', mu', fz', rfl, hi, hSI, hle, hJ', S', off'⟩
  by_cases hlt : i < n
  · refine W.item' hlt hSI (fun v s₁ h₁ => h₁) ?_
    · intro vals h₁ tk hP hS₁ hk₁
      have S₁ : Fs B env.locals m' mu' fz' { s' with heap := h₁, toks := tk } := S'.but hk₁ off'
      obtain ⟨ex, eex, hex⟩ := led_of (live _ _ hS₁)
      have S₂ := S₁.with eex nd hex off'
      refine bindFs (hlen _ _ hP) (fun s₂ S₃ => wpAny_mono (turn i vals m' mu' fz' ex hlt hP hle hJ' s₂ S₃) (fun f s₃ h₃ => ?_) fun _ _ x => x.elim) rfl hk hl _ S₂
      have fin : (∃ m₂ mu₂ fz₂, fz'.le fz₂ ∧ J (i + 1) m₂ mu₂ fz₂ ∧ Fs B env.locals m₂ (mu₂ ++ ex) fz₂ s₃) → ∃ k', k' < n + 1 - i ∧ ∃ i m' mu' fz', k' = n + 1 - i ∧ i ≤ n ∧ SI i s₃.heap ∧ fz.le fz' ∧ J i m' mu' fz' ∧ Fs B env.locals m' mu' fz' s₃ ∧
        (∀ b ∈ wr, b ≠ env.locals ∧ b ∉ mu'.map (·.1) ∧ (∀ o, ¬ fz' b o) ∧ B.s0.heap.get? b = none) := by
        rintro ⟨m₂, mu₂, fz₂, hle₂, hJ₂, S₄⟩
        refine ⟨n + 1 - (i + 1), by omega, i + 1, m₂, mu₂, fz₂, rfl, hlt, ?_, Fz.le_trans hle hle₂, hJ₂, S₄.sub (List.sublist_append_left ..), S₄.offOf eex⟩
        refine W.frame _ _ _ hS₁ fun b hb o ho => ?_
        rcases hfp b hb with hb | ⟨q, hq⟩
        · rw [← eex] at hb
          obtain ⟨p, hp, rfl⟩ := List.mem_map.mp hb
          have e2 : h₁.get? p.1 = some p.2 := hex p hp
          rw [ho] at e2
          cases e2
          exact S₄.own (List.mem_append.mpr (.inr hp))
        · have e1 : h₁.get? b = some q := S₁.get (hle _ _ hq)
          rw [ho] at e1
          cases e1
          exact S₄.get (hle₂ _ _ (hle _ _ hq))
      cases f with
      | next => exact fin h₃
      | cont => exact fin h₃
      | brk => exact h₃
      | ret v => exact h₃
  · have hin : i = n := by omega
    subst hin
    refine W.done s' _ _ hSI fun h₁ tk hk₁ => wpAny_execs_nil ?_
    exact done m' mu' fz' hle hJ' _ (S'.but hk₁ off')

theorem nsO {h : Heap} {a : Addr} {m : Str → Option Value} (n : h.Ns a m) : ∃ o, h.get? a = some o ∧ ONs o m := let ⟨o, es, ep, ho, r⟩ := n; ⟨o, ho, es, ep, r⟩
/-- the state without some own objects -/
noncomputable abbrev hid (s : Shared) (ex : Led) : Shared := { s with heap := hideAll s.heap (ex.map (·.1)) }
theorem Fs.hid {s : Shared} {ex : Led} (S : Fs B L m (ex ++ mu) fz s) : Fs B L m mu fz (hid s ex) :=
  (S.sub (List.sublist_append_right ..)).but (wr := ex.map (·.1)) (tk := s.toks) (fun b o hb e => hideAll_get _ e hb) S.offEx
theorem Fs.callee {s : Shared} {ex : Led} (S : Fs B L m (ex ++ mu) fz s) {h₁ : Heap} {tk C : Nat} {mC : Str → Option Value} (hk : ∀ b o, s.heap.get? b = some o → h₁.get? b = some o) (hC : s.heap.objs.size ≤ C) (hn : h₁.Ns C mC) :
    Fs ⟨Mine.hid s ex, fz, L :: B.fs⟩ C mC ex fz { s with heap := h₁, toks := tk } := by
  have lt : ∀ {b o}, s.heap.get? b = some o → b ≠ C := fun e => Nat.ne_of_lt (Nat.lt_of_lt_of_le (Heap.lt_size e) hC)
  refine ⟨rfl, rfl, rfl, hn, S.hid.kpCall fun b o e => hk b o (of_hideAll _ e), ?_, Fz.le_refl _, fun a o e => ⟨hk _ _ (S.get e), lt (S.get e), .inl e⟩, ?_, ?_⟩
  · cases e : (Mine.hid s ex).heap.get? C with
    | none => rfl
    | some o => exact absurd rfl (lt (of_hideAll _ e))
  · intro p hp
    have hm := S.mus p (List.mem_append_left _ hp)
    exact ⟨hk _ _ hm.1, lt hm.1, hm.2.2.1, hideAll_none _ (List.mem_map.mpr ⟨p, hp, rfl⟩)⟩
  · have := S.nd
    rw [List.map_append, List.nodup_append] at this
    exact this.1
/-- behind a call: what the callee's frame left, its names and own objects too -/
theorem Fs.backF {s s' : Shared} {L' : Addr} {m' : Str → Option Value} {mu' : Led} {fz' : Fz} (S : Fs B L m mu fz s) (C : Fs ⟨s, fz, L :: B.fs⟩ L' m' mu' fz' s') : ∃ o', ONs o' m' ∧ Fs B L m ((L', o') :: (mu' ++ mu)) fz' s' := by
  obtain ⟨o', ho', hn⟩ := nsO C.ns
  have K := S.back C
  have new : ∀ {a : Addr}, s.heap.get? a = none → a ≠ L ∧ B.s0.heap.get? a = none := fun {a} e => by
    refine ⟨fun x => ?_, ?_⟩
    · obtain ⟨q, _, _, hq, _⟩ := S.ns
      rw [x, hq] at e; cases e
    · cases e' : B.s0.heap.get? a with
      | none => rfl
      | some q => obtain ⟨q', h'⟩ := S.keep.any e'; rw [e] at h'; cases h'
  refine ⟨o', hn, K.gens, K.drawn, K.os, K.ns, K.keep, K.newL, K.le, K.fzs, ?_, ?_⟩
  · intro p hp
    rcases List.mem_cons.mp hp with rfl | hp
    · exact ⟨ho', (new C.newL).1, fun o e => (C.fzs _ o e).2.1 rfl, (new C.newL).2⟩
    · rcases List.mem_append.mp hp with hp | hp
      · have hm := C.mus p hp
        exact ⟨hm.1, (new hm.2.2.2).1, hm.2.2.1, (new hm.2.2.2).2⟩
      · exact K.mus p hp
  · have some_ : ∀ {a : Addr}, a ∈ mu.map (·.1) → ∃ o, s.heap.get? a = some o := fun ha => by
      obtain ⟨p, hp, rfl⟩ := List.mem_map.mp ha
      exact ⟨_, (S.mus p hp).1⟩
    rw [List.map_cons, List.nodup_cons, List.map_append, List.nodup_append]
    refine ⟨fun hm => ?_, C.nd, S.nd, fun a ha b hb hab => ?_⟩
    · rcases List.mem_append.mp hm with hm | hm
      · obtain ⟨p, hp, e⟩ := List.mem_map.mp hm
        exact (C.mus p hp).2.1 e
      · obtain ⟨o, ho⟩ := some_ hm
        have := C.newL
        rw [show (⟨s, fz, L :: B.fs⟩ : Bs).s0.heap.get? L' = some o from ho] at this; cases this
    · subst hab
      obtain ⟨p, hp, rfl⟩ := List.mem_map.mp ha
      obtain ⟨o, ho⟩ := some_ hb
      have := (C.mus p hp).2.2.2
      rw [show (⟨s, fz, L :: B.fs⟩ : Bs).s0.heap.get? p.1 = some o from ho] at this; cases this

theorem codeAny_compLoop_any {elt target iter : Expr} {scope : Scope} {pos : Pos} {it acc : Value} {R : Result → Shared → Prop} {s : Shared} (I : Nat → Shared → Prop)
    (turn : ∀ n s, I n s → wpAny (model prog w) A (pyNext it) (fun r s₁ => match r with
      | none => R (.ok .next) s₁
      | some v => wpAny (model prog w) A (letOwnedTupleGo target it v) (fun _ s₁' => wpAny (model prog w) A (assign target env v) (fun _ s₂ => wpAny (model prog w) A (eval elt env) (fun x s₃ =>
          wpAny (model prog w) A (call (.builtin "list.append") [acc, x]) (fun _ s₄ => ∃ m, m < n ∧ I m s₄) NE s₃) NE s₂) NE s₁') NE s₁) NE s)
    (n : Nat) (h : I n s) : codeAny (model prog w) A (.compLoop (.ListComp elt [⟨target, iter, [], 0⟩] scope pos) 0 it acc env) R s := by
  refine codeAny_loop rfl I (fun n s hI => ?_) n h
  show wpAny _ _ ((compTurn (.ListComp elt [⟨target, iter, [], 0⟩] scope pos) 0 it acc env).onRaise (fun x => do noteFrame x env; theTreesLotGoes x)) _ _ s
  refine wpAny_noted ?_
  rw [compTurn_list1]
  refine wpAny_bind (wpAny_standAt (wpAny_bind (wpAny_mono (turn n s hI) (fun r s₁ h₁ => ?_) fun _ _ h' => h'.elim)))
  cases r with
  | none => exact wpAny_pure h₁
  | some v =>
    refine wpAny_bind (wpAny_mono h₁ (fun _ s₁' h₁' => ?_) fun _ _ h' => h'.elim)
    exact wpAny_bind (wpAny_mono h₁' (fun _ s₂ h₂ => wpAny_bind (wpAny_bind (wpAny_mono h₂ (fun x s₃ h₃ => wpAny_bind (wpAny_mono h₃
      (fun _ s₄ h₄ => wpAny_pure (wpAny_pure ⟨rfl, h₄⟩)) fun _ _ h' => h'.elim)) fun _ _ h' => h'.elim))) fun _ _ h' => h'.elim)

theorem gcomp {tgt elt iter : Expr} {scope : Scope} {pos : Pos} {clo : List (Str × Addr)} {xs : List Str} {I : Addr} {fp wr : List Addr} {n : Nat} {Vals : Nat → List Value → Prop} {SI : Nat → Heap → Prop} {ex0 : Led} {RR : Value → Addr → Result → Shared → Prop}
    (W : Gw prog w A tgt xs I fp wr n Vals SI) (J : Nat → List Value → Fz → Prop) (e0 : ex0.map (·.1) = wr) (live : ∀ i h, SI i h → ∀ b ∈ wr, ∃ o, h.get? b = some o)
    (h0 : ∀ s, Fs B L m (ex0 ++ mu) fz s → SI 0 s.heap) (hJ : J 0 [] fz) (hfp : ∀ b ∈ fp, b ∈ wr ∨ ∃ o, fz b o) (hlen : ∀ i vals, Vals i vals → vals.length = xs.length) (hn : n ≤ 1000000)
    (hcell : ∀ y ∈ scope.names, y.2 ≠ .cell) (hkind : scope.kind = .function) (hx : ∀ x ∈ xs, scope.names.lookup x = some .local)
    (turn : ∀ i vals acc fz₁ ex B' C mC, B'.f0 = fz → B.f0.le fz → B'.fs = L :: B.fs → i < n → Vals i vals → fz.le fz₁ → J i acc fz₁ → ∀ s, Fs B' C (bindM mC xs vals) ex fz₁ s →
      wpAny (model prog w) A (eval elt (compEnvC scope clo C env)) (fun v s' => ∃ fz₂, fz₁.le fz₂ ∧ J (i + 1) (acc ++ [v]) fz₂ ∧ Fs B' C (bindM mC xs vals) ex fz₂ s') NE s)
    (fin : ∀ D acc k fz' C oC mC, fz.le fz' → J n acc fz' → ONs oC mC → ∀ s, Fs B L m ((C, oC) :: (D, listOf acc.toArray k) :: mu) fz' s → RR (.ref D) C (.ok .next) s) :
    ∀ s, Fs B L m (ex0 ++ mu) fz s → wpAny (model prog w) A (newList []) (fun acc s₃ => wpAny (model prog w) A (newFunctionEnv scope env.globals clo [] env.qual none .none (some env)) (fun cenv s₄ =>
      codeAny (model prog w) A (.compStart (.ListComp elt [⟨tgt, iter, [], 0⟩] scope pos) 0 (.ref I) acc { cenv with scope := relabel scope env }) (RR acc cenv.locals) s₄) E s₃) E s := fun s S0 => by
  have nd : wr.Nodup := by
    have := S0.nd
    rw [List.map_append, List.nodup_append, e0] at this
    exact this.1
  refine wpAny_newObj_type ?_
  have S1 : Fs B L m ((s.heap.objs.size, listOf #[] 0) :: (ex0 ++ mu)) fz { s with heap := s.heap.push (listOf #[] 0) } := S0.alloc (tk := s.toks) (listOf #[] 0)
  refine wpAny_newFunctionEnv hcell (by intro y hy; simp at hy) (fun h₁ hns₁ hsb₁ => ?_) hkind
  have S1' : Fs B L m (((s.heap.objs.size, listOf #[] 0) :: ex0) ++ mu) fz { s with heap := s.heap.push (listOf #[] 0) } := S1
  have S2 := S1'.callee (h₁ := h₁) (tk := s.toks + ([] : List (Str × Value)).length) (C := (s.heap.push (listOf #[] 0)).objs.size)
    (fun b o e => hsb₁.extBut b o (Nat.ne_of_lt (Heap.lt_size e)) (Heap.get?_push_of_some _ e)) (Nat.le_refl _) hns₁
  have SH := S1'.hid
  have hst : SI 0 h₁ := W.frame _ _ _ (h0 s S0) fun b _ o e => by
    have e2 := Heap.get?_push_of_some (listOf #[] 0) e
    exact hsb₁.extBut b o (Nat.ne_of_lt (Heap.lt_size e2)) (Heap.get?_push_of_some _ e2)
  generalize hB : (⟨Mine.hid { s with heap := s.heap.push (listOf #[] 0) } ((s.heap.objs.size, listOf #[] 0) :: ex0), fz, L :: B.fs⟩ : Bs) = B' at S2
  generalize hD : s.heap.objs.size = D at S2 SH hB ⊢
  generalize hCC : (s.heap.push (listOf #[] 0)).objs.size = C at S2 ⊢
  have hf0 : B'.f0 = fz := by rw [← hB]
  have hfs : B'.fs = L :: B.fs := by rw [← hB]
  have S3 : Fs B' C (fun x => ([] : List (Str × Value)).reverse.lookup x) (ex0 ++ [(D, listOf ([] : List Value).toArray 0)]) fz { s with heap := h₁, toks := s.toks + ([] : List (Str × Value)).length } :=
    S2.perm (List.perm_append_comm (l₁ := [(D, listOf #[] 0)]) (l₂ := ex0))
  have main : ∀ s₃, s₃ = { s with heap := h₁, toks := s.toks + ([] : List (Str × Value)).length } → codeAny (model prog w) A (.compLoop (.ListComp elt [⟨tgt, iter, [], 0⟩] scope pos) 0 (.ref I) (.ref D) (compEnvC scope clo C env)) (RR (.ref D) C) s₃ := by
    rintro s₃ rfl
    refine codeAny_compLoop_any (fun k s' => ∃ i mC acc kk fz', k = n + 1 - i ∧ i ≤ n ∧ acc.length = i ∧ SI i s'.heap ∧ fz.le fz' ∧ J i acc fz' ∧ Fs B' C mC [(D, listOf acc.toArray kk)] fz' s' ∧
      (∀ b ∈ wr, b ≠ C ∧ b ∉ ([(D, listOf acc.toArray kk)] : Led).map (·.1) ∧ (∀ o, ¬ fz' b o) ∧ B'.s0.heap.get? b = none)) ?_ (n + 1)
      ⟨0, _, [], 0, fz, rfl, Nat.zero_le _, rfl, hst, Fz.le_refl _, hJ, S3.sub (List.sublist_append_right ..), e0 ▸ S3.offEx⟩
    rintro k s' ⟨i, mC, acc, kk, fz', rfl, hi, hacc, hSI, hle, hJ', S', off'⟩
    by_cases hlt : i < n
    · refine W.item' (env := compEnvC scope clo C env) hlt hSI (fun v s₁ h₁ => h₁) ?_
      intro vals h₁ tk hP hS₁ hk₁
      have S₁ := S'.but (tk := tk) hk₁ off'
      obtain ⟨ex, eex, hex⟩ := led_of (live _ _ hS₁)
      have S₂ := S₁.with eex nd hex off'
      refine bindFs (env := compEnvC scope clo C env) (hlen _ _ hP) (fun s₂ S₃ => wpAny_mono (turn i vals acc fz' _ B' C mC hf0 S0.le hfs hlt hP hle hJ' s₂ S₃) (fun v s₃ h₃ => ?_) fun _ _ x => x.elim) rfl hkind (fun x hx' => lookup_relabel_local (hx x hx')) _ S₂
      · obtain ⟨fz₂, hle₂, hJ₂, S₄⟩ := h₃
        have hD4 : s₃.heap.get? D = some (listOf acc.toArray kk) := S₄.own (List.mem_append_left _ List.mem_cons_self)
        refine wpAny_list_append_plain (hsz := by show acc.toArray.size ≤ 16777216; simp; omega) (⟨kk, hD4⟩ : s₃.heap.PlainList D acc.toArray) fun h₅ hl₅ hs₅ => ?_
        obtain ⟨kk', hl₅⟩ := hl₅
        have S₅ := Fs.put (tk := s₃.toks) (pre := []) (post := ex) S₄ (o' := listOf (acc ++ [v]).toArray kk') (h' := h₅) (by rw [hl₅]; simp) fun b q hb e => hs₅.extBut b q hb e
        have S₆ : Fs B' C (bindM mC xs vals) ([(D, listOf (acc ++ [v]).toArray kk')] ++ ex) fz₂ _ := S₅
        refine ⟨n + 1 - (i + 1), by omega, i + 1, _, acc ++ [v], kk', fz₂, rfl, hlt, by simp [hacc], ?_, Fz.le_trans hle hle₂, hJ₂, S₆.sub (List.sublist_append_left ..), S₆.offOf eex⟩
        refine W.frame _ _ _ hS₁ fun b hb o ho => ?_
        rcases hfp b hb with hb | ⟨q, hq⟩
        · rw [← eex] at hb
          obtain ⟨p, hp, rfl⟩ := List.mem_map.mp hb
          have e2 : h₁.get? p.1 = some p.2 := hex p hp
          rw [ho] at e2
          cases e2
          exact S₆.own (List.mem_append.mpr (.inr hp))
        · have e1 : h₁.get? b = some q := S₁.get (hle _ _ hq)
          rw [ho] at e1
          cases e1
          exact S₆.get (hle₂ _ _ (hle _ _ hq))
    · have hin : i = n := by omega
      rw [hin] at hSI hJ'
      refine W.done s' _ _ hSI fun h₁ tk hk₁ => ?_
      have S₁ := S'.but (tk := tk) hk₁ off'
      rw [← hB] at S₁
      obtain ⟨oC, hoC, S₂⟩ := SH.backF S₁
      exact fin D acc kk fz' C oC mC hle hJ' hoC _ S₂
  subst hD hCC
  exact codeAny_compStart_list (main _ rfl) (W.self 0 _ _ _ hst (main _ rfl))
end
end Mine
end
-- text MZip
section
open PySem PySem.W PyProof.Rows PySem.Calls PySem.SeqAt PySem.W.KBw
set_option Elab.async false
set_option maxRecDepth 100000
set_option linter.unusedVariables false
namespace Mine
section
variable {prog : Program} {w : World} {A : Around} {E : Value → Shared → Prop} {s : Shared} {b : Array UInt8} {t : Tok}
theorem bi_next {it : Addr} {i : Nat} {c : UInt8} {Q : Value → Shared → Prop} (hit : IsBytesIter s.heap it b t i) (hx : b[i]? = some c)
    (hQ : ∀ h', IsBytesIter h' it b t (i + 1) → Heap.SameBut it s.heap h' → Q (.int (c.toNat : Int) s.toks) { s with heap := h', toks := s.toks + 1 }) : wpAny (model prog w) A (Builtin.SmallTypes.nextOf (.ref it)) Q E s := by
  obtain ⟨o, ho, hc, hd⟩ := id hit
  unfold Builtin.SmallTypes.nextOf
  refine wpAny_bind (wpAny_callSpecial?_slot (name := Str.ofString "__next__") (iter_typeIs hit) slot_next (wpAny_call_entry slot_next (iter_typeIs hit) entry_next ?_ (args_next _)))
  show wpAny _ _ (field (.ref it) 0 >>= _) _ _ s
  refine wpAny_bind (wpAny_field ho hd (x := .bytes b t) rfl ?_)
  show wpAny _ _ (if (Value.bytes b t == Value.none) = true then _ else _) _ _ s
  rw [if_neg (show ¬ ((Value.bytes b t == Value.none) = true) from Bool.false_ne_true)]
  show wpAny _ _ (field (.ref it) 1 >>= _) _ _ s
  refine wpAny_bind (wpAny_field ho hd (x := .int i 0) rfl ?_)
  refine wpAny_bind (wpAny_of_eq (a := b) rfl ?_)
  simp only [Int.toNat_natCast, hx]
  refine wpAny_bind (wpAny_setField ho hd (by simp) (wpAny_bind (wpAny_mkInt (wpAny_pure ⟨_, rfl, wpAny_pure (hQ _ ?_ (Heap.SameBut.update ..))⟩))))
  exact ⟨_, Heap.get?_update_self _ ho (Obj.isFreed_of_fields (Obj.data_mapFields hd _)), (Obj.cls_mapFields ..).trans hc, by
    rw [Obj.data_mapFields hd]; simp [rawInt]⟩
theorem bi_end {it : Addr} {i : Nat} {Q : Value → Shared → Prop} (hh : A.handled = none) (hit : IsBytesIter s.heap it b t i) (hx : b[i]? = none)
    (hE : ∀ h' e, Heap.ExtBut it s.heap h' → (∃ o, h'.get? e = some o ∧ o.cls = .type "StopIteration") → E (.ref e) { s with heap := h' }) : wpAny (model prog w) A (Builtin.SmallTypes.nextOf (.ref it)) Q E s := by
  obtain ⟨o, ho, hc, hd⟩ := id hit
  unfold Builtin.SmallTypes.nextOf
  refine wpAny_bind (wpAny_callSpecial?_slot (name := Str.ofString "__next__") (iter_typeIs hit) slot_next (wpAny_call_entry slot_next (iter_typeIs hit) entry_next ?_ (args_next _)))
  show wpAny _ _ (field (.ref it) 0 >>= _) _ _ s
  refine wpAny_bind (wpAny_field ho hd (x := .bytes b t) rfl ?_)
  show wpAny _ _ (if (Value.bytes b t == Value.none) = true then _ else _) _ _ s
  rw [if_neg (show ¬ ((Value.bytes b t == Value.none) = true) from Bool.false_ne_true)]
  show wpAny _ _ (field (.ref it) 1 >>= _) _ _ s
  refine wpAny_bind (wpAny_field ho hd (x := .int i 0) rfl ?_)
  refine wpAny_bind (wpAny_of_eq (a := b) rfl ?_)
  simp only [Int.toNat_natCast, hx]
  refine wpAny_bind (wpAny_rule (wpAny_bind (wpAny_setField ho hd (by simp) ?_)))
  show wpAny _ _ (newExc (.type "StopIteration") [] >>= _) _ _ _
  refine wpAny_bind ?_
  simp only [newExc, newTuple]
  refine wpAny_bind (wpAny_newObj_type ?_ (by size_fits))
  refine wpAny_bind (m := firstArgMember _ _) (wpAny_of_eq (a := Value.none) (by first | rfl | (simp only [firstArgMember]; rfl)) ?_)
  refine wpAny_newObj_type ?_ (by size_fits)
  simp only [raiseNew]
  refine wpAny_bind (wpAny_handled ?_)
  rw [show A.in1.handled = none from hh]
  refine wpAny_bind (wpAny_pure (wpAny_throw ?_))
  exact hE _ _ (((Heap.SameBut.update ..).extBut.push _).push _) ⟨_, Heap.get?_push_size _ rfl, rfl⟩

/-- the addresses of a zip of two bytes are apart -/
structure ZA (z TI TO i1 i2 : Addr) : Prop where
  TIz : TI ≠ z
  TOz : TO ≠ z
  i1z : i1 ≠ z
  i2z : i2 ≠ z
  TITO : TI ≠ TO
  TIi1 : TI ≠ i1
  TIi2 : TI ≠ i2
  TOi1 : TO ≠ i1
  TOi2 : TO ≠ i2
  i12 : i1 ≠ i2
theorem bat {h h' : Heap} {a : Addr} {k : Nat} (x : IsBytesIter h a b t k) (hk : ∀ o, h.get? a = some o → h'.get? a = some o) : IsBytesIter h' a b t k := let ⟨o, ho, r⟩ := x; ⟨o, hk o ho, r⟩
theorem bext {h h' : Heap} {a c : Addr} {k : Nat} (x : IsBytesIter h a b t k) (hs : Heap.ExtBut c h h') (hac : a ≠ c) : IsBytesIter h' a b t k := bat x fun o e => hs a o hac e

theorem zb_item {z TI TO i1 i2 : Addr} {k1 k2 : Nat} {xs ys : Array UInt8} {tx ty : Tok} {x y : UInt8} {a c : Value} {Q : Value → Shared → Prop} (D : ZA z TI TO i1 i2)
    (hz : IsZip s.heap z TI TO .none) (hTI : IsPair s.heap TI (.ref i1) (.ref i2)) (hTO : IsPair s.heap TO a c)
    (h1 : IsBytesIter s.heap i1 xs tx k1) (h2 : IsBytesIter s.heap i2 ys ty k2) (hx : xs[k1]? = some x) (hy : ys[k2]? = some y)
    (hQ : ∀ h' t1 t2 tk, IsZip h' z TI TO (rawInt s.heap.objs.size) → IsPair h' TO (.int (x.toNat : Int) t1) (.int (y.toNat : Int) t2) → IsBytesIter h' i1 xs tx (k1 + 1) → IsBytesIter h' i2 ys ty (k2 + 1) → IsPair h' s.heap.objs.size (.int (x.toNat : Int) t1) (.int (y.toNat : Int) t2) →
      (∀ c o, c ≠ z → c ≠ TO → c ≠ i1 → c ≠ i2 → s.heap.get? c = some o → h'.get? c = some o) → Q (.ref s.heap.objs.size) { s with heap := h', toks := tk }) :
    wpAny (model prog w) A (Builtin.«zip.__next__» ⟨[.ref z], []⟩) (fun fin s' => ∃ v, fin = .done (.ret v) ∧ Q v s') E s := by
  show wpAny _ _ (field (.ref z) 2 >>= _) _ _ _
  refine wpAny_bind (wpAny_field hz rfl (x := .bool false) rfl ?_)
  show wpAny _ _ (field (.ref z) 3 >>= _) _ _ _
  refine wpAny_bind (wpAny_field hz rfl (x := .ref TI) rfl ?_)
  refine wpAny_bind (wpAny_seqItems hTI rfl ?_)
  show wpAny _ _ (Builtin.SmallTypes.ownedTupleIsFree (.ref z) >>= _) _ _ _
  refine wpAny_bind ?_
  unfold Builtin.SmallTypes.ownedTupleIsFree
  refine wpAny_bind (wpAny_field hz rfl (x := .none) rfl (wpAny_pure ?_))
  simp only [if_true]
  refine wpAny_bind (wpAny_rule ?_)
  refine wpAny_bind (wpAny_field hz rfl (x := .ref TO) rfl ?_)
  refine wpAny_bind (wpAny_setField_rec hz (by simp) fun h₁ hz₁ hs₁ => ?_)
  replace hz₁ : IsZip h₁ z TI TO .ellipsis := hz₁
  refine wpAny_bind ?_
  simp only [List.zipIdx_cons, List.zipIdx_nil, List.forIn_cons, List.forIn_nil]
  refine wpAny_bind (wpAny_bind (wpAny_onRaise ?_))
  show wpAny _ _ (Builtin.SmallTypes.nextOf (.ref i1) >>= _) _ _ _
  refine wpAny_bind (bi_next (bext h1 hs₁.extBut D.i1z) hx fun h₂ h1₂ hs₂ => wpAny_pure ?_)
  have hTO₂ : IsPair h₂ TO a c := hs₂.extBut _ _ D.TOi1 (hs₁.extBut _ _ D.TOz hTO)
  refine wpAny_bind (wpAny_seqItems hTO₂ rfl ?_)
  refine wpAny_bind (wpAny_updateSeq_pair hTO₂ fun h₃ hTO₃ hs₃ => ?_)
  replace hTO₃ : IsPair h₃ TO (.int (x.toNat : Int) s.toks) c := hTO₃
  refine wpAny_bind (wpAny_letGo (wpAny_pure ?_))
  refine wpAny_bind (wpAny_bind (wpAny_onRaise ?_))
  show wpAny _ _ (Builtin.SmallTypes.nextOf (.ref i2) >>= _) _ _ _
  refine wpAny_bind (bi_next (bext (bext (bext h2 hs₁.extBut D.i2z) hs₂.extBut D.i12.symm) hs₃.extBut D.TOi2.symm) hy fun h₄ h2₄ hs₄ => wpAny_pure ?_)
  have hTO₄ : IsPair h₄ TO (.int (x.toNat : Int) s.toks) c := hs₄.extBut _ _ D.TOi2 hTO₃
  refine wpAny_bind (wpAny_seqItems hTO₄ rfl ?_)
  refine wpAny_bind (wpAny_updateSeq_pair hTO₄ fun h₅ hTO₅ hs₅ => ?_)
  replace hTO₅ : IsPair h₅ TO (.int (x.toNat : Int) s.toks) (.int (y.toNat : Int) (s.toks + 1)) := hTO₅
  refine wpAny_bind (wpAny_letGo (wpAny_pure (wpAny_pure ?_)))
  refine wpAny_bind (wpAny_seqItems hTO₅ rfl ?_)
  refine wpAny_bind (wpAny_newTuple ?_)
  have hsz : h₅.objs.size = s.heap.objs.size := by rw [hs₅.1, hs₄.1, hs₃.1, hs₂.1, hs₁.1]
  have hz₅ : IsZip h₅ z TI TO .ellipsis := hs₅.extBut _ _ D.TOz.symm (hs₄.extBut _ _ D.i2z.symm (hs₃.extBut _ _ D.TOz.symm (hs₂.extBut _ _ D.i1z.symm hz₁)))
  have hk₅ : ∀ c o, c ≠ z → c ≠ TO → c ≠ i1 → c ≠ i2 → s.heap.get? c = some o → h₅.get? c = some o := fun c o c1 c2 c3 c4 e =>
    hs₅.extBut _ _ c2 (hs₄.extBut _ _ c4 (hs₃.extBut _ _ c2 (hs₂.extBut _ _ c3 (hs₁.extBut _ _ c1 e))))
  have h1₅ : IsBytesIter h₅ i1 xs tx (k1 + 1) := bext (bext (bext h1₂ hs₃.extBut D.TOi1.symm) hs₄.extBut D.i12) hs₅.extBut D.TOi1.symm
  have h2₅ : IsBytesIter h₅ i2 ys ty (k2 + 1) := bext h2₄ hs₅.extBut D.TOi2.symm
  have hzlt : z < h₅.objs.size := Heap.lt_size hz₅
  show wpAny _ _ (Builtin.SmallTypes.ownedTupleHandOut (.ref z) (.ref h₅.objs.size) >>= _) _ _ _
  refine wpAny_bind ?_
  unfold Builtin.SmallTypes.ownedTupleHandOut
  have hz₆ : IsZip (h₅.push { cls := .type "tuple", data := .seq #[.int (x.toNat : Int) s.toks, .int (y.toNat : Int) (s.toks + 1)] }) z TI TO .ellipsis := Heap.get?_push_of_some _ hz₅
  refine wpAny_bind (wpAny_setField_rec hz₆ (by simp) fun h₇ hz₇ hs₇ => ?_)
  replace hz₇ : IsZip h₇ z TI TO (rawInt h₅.objs.size) := hz₇
  refine wpAny_setField_rec hz₇ (by simp) fun h₈ hz₈ hs₈ => ?_
  replace hz₈ : IsZip h₈ z TI TO (rawInt h₅.objs.size) := hz₈
  have up : ∀ c o, c ≠ z → h₅.get? c = some o → h₈.get? c = some o := fun c o c1 e => hs₈.extBut _ _ c1 (hs₇.extBut _ _ c1 (Heap.get?_push_of_some _ e))
  have hT₈ : IsPair h₈ h₅.objs.size (.int (x.toNat : Int) s.toks) (.int (y.toNat : Int) (s.toks + 1)) := hs₈.extBut _ _ (Nat.ne_of_gt hzlt) (hs₇.extBut _ _ (Nat.ne_of_gt hzlt) (Heap.get?_push_size _ rfl))
  rw [hsz] at hz₈ hT₈
  refine wpAny_pure ⟨_, rfl, ?_⟩
  show Q (.ref h₅.objs.size) _
  rw [hsz]
  exact hQ h₈ _ _ _ hz₈ (up _ _ D.TOz hTO₅) (bat h1₅ fun o e => up _ o D.i1z e) (bat h2₅ fun o e => up _ o D.i2z e) hT₈ fun c o c1 c2 c3 c4 e => up c o c1 (hk₅ c o c1 c2 c3 c4 e)

theorem zb_end {z TI TO i1 i2 : Addr} {k1 k2 : Nat} {xs ys : Array UInt8} {tx ty : Tok} {a c : Value} {Q : Fin → Shared → Prop} (hh : A.handled = none) (D : ZA z TI TO i1 i2)
    (hz : IsZip s.heap z TI TO .none) (hTI : IsPair s.heap TI (.ref i1) (.ref i2)) (hTO : IsPair s.heap TO a c)
    (h1 : IsBytesIter s.heap i1 xs tx k1) (h2 : IsBytesIter s.heap i2 ys ty k2) (hend : xs[k1]? = none ∨ ys[k2]? = none)
    (hE : ∀ h' e tk, (∀ c o, c ≠ z → c ≠ TO → c ≠ i1 → c ≠ i2 → s.heap.get? c = some o → h'.get? c = some o) → (∃ o, h'.get? e = some o ∧ o.cls = .type "StopIteration") → E (.ref e) { s with heap := h', toks := tk }) :
    wpAny (model prog w) A (Builtin.«zip.__next__» ⟨[.ref z], []⟩) Q E s := by
  show wpAny _ _ (field (.ref z) 2 >>= _) _ _ _
  refine wpAny_bind (wpAny_field hz rfl (x := .bool false) rfl ?_)
  show wpAny _ _ (field (.ref z) 3 >>= _) _ _ _
  refine wpAny_bind (wpAny_field hz rfl (x := .ref TI) rfl ?_)
  refine wpAny_bind (wpAny_seqItems hTI rfl ?_)
  show wpAny _ _ (Builtin.SmallTypes.ownedTupleIsFree (.ref z) >>= _) _ _ _
  refine wpAny_bind ?_
  unfold Builtin.SmallTypes.ownedTupleIsFree
  refine wpAny_bind (wpAny_field hz rfl (x := .none) rfl (wpAny_pure ?_))
  simp only [if_true]
  refine wpAny_bind (wpAny_rule ?_)
  refine wpAny_bind (wpAny_field hz rfl (x := .ref TO) rfl ?_)
  refine wpAny_bind (wpAny_setField_rec hz (by simp) fun h₁ hz₁ hs₁ => ?_)
  replace hz₁ : IsZip h₁ z TI TO .ellipsis := hz₁
  refine wpAny_bind ?_
  simp only [List.zipIdx_cons, List.zipIdx_nil, List.forIn_cons, List.forIn_nil]
  refine wpAny_bind (wpAny_bind (wpAny_onRaise ?_))
  show wpAny _ _ (Builtin.SmallTypes.nextOf (.ref i1) >>= _) _ _ _
  cases hx : xs[k1]? with
  | none =>
    refine wpAny_bind (bi_end hh (bext h1 hs₁.extBut D.i1z) hx fun h₂ e hs₂ he => ?_)
    obtain ⟨oe, hoe, hce⟩ := he
    have hz₂ : IsZip h₂ z TI TO .ellipsis := hs₂ _ _ D.i1z.symm hz₁
    have hez : e ≠ z := fun x => by subst x; rw [hz₂] at hoe; cases hoe; simp at hce
    refine wpAny_setField_rec hz₂ (by simp) fun h₃ _ hs₃ => hE h₃ e _ (fun c o c1 _ c3 _ x => hs₃.extBut _ _ c1 (hs₂ _ _ c3 (hs₁.extBut _ _ c1 x))) ⟨oe, hs₃.extBut _ _ hez hoe, hce⟩
  | some x =>
    have hy : ys[k2]? = none := by rcases hend with h | h; rw [hx] at h; cases h; exact h
    refine wpAny_bind (bi_next (bext h1 hs₁.extBut D.i1z) hx fun h₂ h1₂ hs₂ => wpAny_pure ?_)
    have hTO₂ : IsPair h₂ TO a c := hs₂.extBut _ _ D.TOi1 (hs₁.extBut _ _ D.TOz hTO)
    refine wpAny_bind (wpAny_seqItems hTO₂ rfl ?_)
    refine wpAny_bind (wpAny_updateSeq_pair hTO₂ fun h₃ hTO₃ hs₃ => ?_)
    refine wpAny_bind (wpAny_letGo (wpAny_pure ?_))
    refine wpAny_bind (wpAny_bind (wpAny_onRaise ?_))
    show wpAny _ _ (Builtin.SmallTypes.nextOf (.ref i2) >>= _) _ _ _
    refine wpAny_bind (bi_end hh (bext (bext (bext h2 hs₁.extBut D.i2z) hs₂.extBut D.i12.symm) hs₃.extBut D.TOi2.symm) hy fun h₄ e hs₄ he => ?_)
    obtain ⟨oe, hoe, hce⟩ := he
    have hz₄ : IsZip h₄ z TI TO .ellipsis := hs₄ _ _ D.i2z.symm (hs₃.extBut _ _ D.TOz.symm (hs₂.extBut _ _ D.i1z.symm hz₁))
    have hez : e ≠ z := fun x => by subst x; rw [hz₄] at hoe; cases hoe; simp at hce
    refine wpAny_setField_rec hz₄ (by simp) fun h₅ _ hs₅ => hE h₅ e _ (fun c o c1 c2 c3 c4 x => hs₅.extBut _ _ c1 (hs₄ _ _ c4 (hs₃.extBut _ _ c2 (hs₂.extBut _ _ c3 (hs₁.extBut _ _ c1 x))))) ⟨oe, hs₅.extBut _ _ hez hoe, hce⟩

/-- a zip of two bytes -/
theorem Gw.zipB (hh : A.handled = none) (z TI TO i1 i2 : Addr) (D : ZA z TI TO i1 i2) (xs ys : Array UInt8) (tx ty : Tok) (x y : Str) (px py pos : Pos) (k : Nat) :
    Gw prog w A (.Tuple [.Name x px, .Name y py] k pos) [x, y] z [z, TI, TO, i1, i2] [z, TO, i1, i2] (min xs.size ys.size)
      (fun i vals => ∃ a c t1 t2, xs[i]? = some a ∧ ys[i]? = some c ∧ vals = [.int (a.toNat : Int) t1, .int (c.toNat : Int) t2])
      (fun i h => IsZip h z TI TO .none ∧ IsPair h TI (.ref i1) (.ref i2) ∧ (∃ a c, IsPair h TO a c) ∧ IsBytesIter h i1 xs tx i ∧ IsBytesIter h i2 ys ty i) where
  sub := fun c hc => by simp at hc ⊢; rcases hc with rfl | rfl | rfl | rfl <;> simp
  frame := fun i h h' hst hk => by
    obtain ⟨hz, hTI, ⟨a, c, hTO⟩, h1, h2⟩ := hst
    exact ⟨hk z (by simp) _ hz, hk TI (by simp) _ hTI, ⟨a, c, hk TO (by simp) _ hTO⟩, bat h1 fun o e => hk i1 (by simp) o e, bat h2 fun o e => hk i2 (by simp) o e⟩
  item := fun i s env Q E hi hst hQ => by
    obtain ⟨hz, hTI, ⟨a, c, hTO⟩, h1, h2⟩ := hst
    have hix : i < xs.size := Nat.lt_of_lt_of_le hi (Nat.min_le_left ..)
    have hiy : i < ys.size := Nat.lt_of_lt_of_le hi (Nat.min_le_right ..)
    have hT : s.TypeIs (.ref z) "zip" := ⟨_, hz, rfl⟩
    unfold pyNext
    refine wpAny_bind (wpAny_attempt (wpAny_callSpecial?_slot (name := Str.ofString "__next__") hT F.slot_zip_next
      (wpAny_call_entry F.slot_zip_next hT F.entry_zip_next
        (zb_item D hz hTI hTO h1 h2 (Array.getElem?_eq_getElem hix) (Array.getElem?_eq_getElem hiy) fun h' t1 t2 tk a1 a2 a3 a4 a5 hk => wpAny_pure ?_) (F.args_zip_next_1 _))))
    refine wpAny_letOwnedTupleGo_zip a1 fun h'' hz'' hs'' => ?_
    have lt : ∀ {c o}, s.heap.get? c = some o → s.heap.objs.size ≠ c := fun e => Nat.ne_of_gt (Heap.lt_size e)
    have hT'' : h''.IsTuple s.heap.objs.size #[.int (xs[i].toNat : Int) t1, .int (ys[i].toNat : Int) t2] := ⟨_, hs''.extBut _ _ (lt hz) a5, rfl, _, rfl⟩
    refine wpAny_assign_Tuple hh hT'' rfl rfl fun h3 he => ?_
    have hb : ∀ c o, h''.get? c = some o → h3.get? c = some o := fun c o e => he c o (Nat.ne_of_lt (Heap.lt_size e)) e
    refine assignTwo (hQ _ h3 tk ⟨xs[i], ys[i], t1, t2, Array.getElem?_eq_getElem hix, Array.getElem?_eq_getElem hiy, rfl⟩ ?_ ?_)
    · exact ⟨hb _ _ hz'', hb _ _ (hs''.extBut _ _ D.TIz (hk _ _ D.TIz D.TITO D.TIi1 D.TIi2 hTI)), ⟨_, _, hb _ _ (hs''.extBut _ _ D.TOz a2)⟩, bat (bext a3 hs''.extBut D.i1z) fun o e => hb _ _ e, bat (bext a4 hs''.extBut D.i2z) fun o e => hb _ _ e⟩
    · intro c o hc e
      exact hb _ _ (hs''.extBut _ _ (fun x => hc (by simp [x])) (hk c o (fun x => hc (by simp [x])) (fun x => hc (by simp [x])) (fun x => hc (by simp [x])) (fun x => hc (by simp [x])) e))
  done := fun s Q E hst hQ => by
    obtain ⟨hz, hTI, ⟨a, c, hTO⟩, h1, h2⟩ := hst
    have hend : xs[min xs.size ys.size]? = none ∨ ys[min xs.size ys.size]? = none := by
      rcases Nat.le_total xs.size ys.size with h | h
      · exact .inl (by rw [Nat.min_eq_left h]; exact Array.getElem?_eq_none (Nat.le_refl _))
      · exact .inr (by rw [Nat.min_eq_right h]; exact Array.getElem?_eq_none (Nat.le_refl _))
    have hT : s.TypeIs (.ref z) "zip" := ⟨_, hz, rfl⟩
    unfold pyNext
    refine wpAny_bind (wpAny_attempt (wpAny_callSpecial?_slot (name := Str.ofString "__next__") hT F.slot_zip_next
      (wpAny_call_entry F.slot_zip_next hT F.entry_zip_next (zb_end hh D hz hTI hTO h1 h2 hend fun h' e tk hk he => ?_) (F.args_zip_next_1 _))))
    obtain ⟨o, ho, hc⟩ := he
    refine wpAny_bind (wpAny_isInstance (T := "StopIteration") (b := true) ⟨o, ho, hc⟩ isSubtype_stop ?_)
    exact wpAny_pure (hQ _ _ fun c o hc e => hk c o (fun x => hc (by simp [x])) (fun x => hc (by simp [x])) (fun x => hc (by simp [x])) (fun x => hc (by simp [x])) e)
  self := fun i s Q E hst hQ => wpAny_pyIter_zip hst.1 hQ

noncomputable abbrev bItObj (b : Array UInt8) (t : Tok) : Obj := { cls := .type "bytes_iterator", data := .fields #[.bytes b t, .int 0 0] }
noncomputable abbrev zq1 (h : Heap) (b : Array UInt8) (t : Tok) : Heap := h.push (bItObj b t)
noncomputable abbrev zq2 (h : Heap) (b c : Array UInt8) (t u : Tok) : Heap := (zq1 h b t).push (bItObj c u)
noncomputable abbrev zq3 (h : Heap) (b c : Array UInt8) (t u : Tok) : Heap := (zq2 h b c t u).push (tupOf #[.ref h.objs.size, .ref (zq1 h b t).objs.size])
noncomputable abbrev zq4 (h : Heap) (b c : Array UInt8) (t u : Tok) : Heap := (zq3 h b c t u).push (tupOf #[.none, .none])
noncomputable abbrev zipObj (TI TO : Addr) : Obj := { cls := .type "zip", data := .fields #[.none, .bool false, .bool false, .ref TI, .ref TO] }
noncomputable abbrev zq5 (h : Heap) (b c : Array UInt8) (t u : Tok) : Heap := (zq4 h b c t u).push (zipObj (zq2 h b c t u).objs.size (zq3 h b c t u).objs.size)
theorem meets_zipB (b c : Array UInt8) (t u : Tok) :
    Meets (Builtin.«zip.__new__» ⟨[.type "zip", .bytes b t, .bytes c u], []⟩) (fun _ R s => R (.ok (.ret (.ref (zq4 s.heap b c t u).objs.size))) { s with heap := zq5 s.heap b c t u }) :=
  .of_wp fun prog w A R s h => by
    unfold Builtin.«zip.__new__»
    refine wpAny_bind (wpAny_of_eq (a := (.type "zip", [.bytes b t, .bytes c u])) ?_ ?_)
    · show (do if !(← isType (.type "zip")) then _ else _) = _
      rfl
    · dsimp only
      unfold Builtin.SmallTypes.iterAll
      simp only [List.forIn_cons, List.forIn_nil]
      refine wpAny_bind (wpAny_bind (wpAny_bind (wpAny_bind (wpAny_holding (pyIter_bytes ?_)))))
      refine wpAny_pure ?_
      refine wpAny_bind (wpAny_bind (wpAny_holding (pyIter_bytes (wpAny_pure (wpAny_pure (wpAny_pure ?_))))))
      refine wpAny_bind (wpAny_newTuple (wpAny_bind (wpAny_newTuple ?_ (by simp; show 2 ≤ 16777216; omega))) (by simp; show 2 ≤ 16777216; omega))
      unfold Builtin.SmallTypes.newRecord
      refine wpAny_bind (wpAny_newObj_type (wpAny_pure ?_) (by show _ ≤ _; simp [Builtin.SmallTypes.ownedTupleFields]; show 3 ≤ 16777216; omega))
      exact ⟨_, rfl, h⟩
end
section
variable {prog : Program} {w : World} {A : Around} {E : Value → Shared → Prop} {env : Env} {B : Bs} {L : Addr} {m : Str → Option Value} {mu : Led} {fz fz' : Fz} {mg mb : Str → Option Value} {t u : Tok}
noncomputable def zLed (z TO i1 i2 TI : Addr) (b c : Array UInt8) (t u : Tok) : Led := [(z, zipObj TI TO), (TO, tupOf #[.none, .none]), (i1, bItObj b t), (i2, bItObj c u)]
theorem p_zipB {b c : Array UInt8} {Q : Value → Shared → Prop} (h : ∀ z TO i1 i2 TI, ZA z TI TO i1 i2 → ∀ s, Fs B L m (zLed z TO i1 i2 TI b c t u ++ mu) (fz.add TI (tupOf #[.ref i1, .ref i2])) s → Q (.ref z) s) :
    ∀ s, Fs B L m mu fz s → wpAny (model prog w) A (call (.type "zip") [.bytes b t, .bytes c u]) Q E s := fun s S => by
  refine callType_new F.called_zip (by decide) (F.typeCall_zip_2 _ _) (F.newCall_zip_2 _ _) (fun obj => F.args_object_init_3 obj _ _) F.entry_zip_new (meets_zipB b c t u) ?_
  have S1 := S.alloc (tk := s.toks) (bItObj b t)
  have S2 := S1.alloc (tk := s.toks) (bItObj c u)
  have S3 := S2.allocF (tk := s.toks) (tupOf #[.ref s.heap.objs.size, .ref (zq1 s.heap b t).objs.size])
  have S4 := S3.alloc (tk := s.toks) (tupOf #[.none, .none])
  have S5 := S4.alloc (tk := s.toks) (zipObj (zq2 s.heap b c t u).objs.size (zq3 s.heap b c t u).objs.size)
  have z1 : (zq1 s.heap b t).objs.size = s.heap.objs.size + 1 := Heap.size_push ..
  have z2 : (zq2 s.heap b c t u).objs.size = s.heap.objs.size + 2 := by rw [Heap.size_push, z1]
  have z3 : (zq3 s.heap b c t u).objs.size = s.heap.objs.size + 3 := by rw [Heap.size_push, z2]
  have z4 : (zq4 s.heap b c t u).objs.size = s.heap.objs.size + 4 := by rw [Heap.size_push, z3]
  refine ⟨⟨_, Heap.get?_push_size _ rfl, rfl⟩, ?_⟩
  refine h (zq4 s.heap b c t u).objs.size (zq3 s.heap b c t u).objs.size s.heap.objs.size (zq1 s.heap b t).objs.size (zq2 s.heap b c t u).objs.size ?_ _ (S5.perm ?_)
  · constructor <;> exact fun e => by have e' : (_ : Nat) = _ := e; omega
  · unfold zLed
    refine .cons _ (.cons _ ?_)
    exact .swap _ _ _
end
end Mine
end
-- text MGen2
section
open PySem PySem.W PyProof.Rows PySem.Calls PySem.SeqAt
set_option Elab.async false
set_option maxRecDepth 100000
set_option linter.unusedVariables false
namespace Mine
section
variable {prog : Program} {w : World} {A : Around} {E : Value → Shared → Prop} {s : Shared}
theorem unpackTwo {env : Env} {x y : Str} {px py pos : Pos} {k : Nat} {a : Addr} {p q : Value} {Q : Unit → Shared → Prop} (hh : A.handled = none) (hl : s.heap.IsList a #[p, q])
    (h : ∀ h', Heap.ExtBut s.heap.objs.size s.heap h' → BindW (model prog w) A env E [x, y] [p, q] Q { s with heap := h' }) :
    wpAny (model prog w) A (assign (.Tuple [.Name x px, .Name y py] k pos) env (.ref a)) Q E s := by
  have hlt : a ≠ s.heap.objs.size := by obtain ⟨o, ho, _⟩ := hl; exact Nat.ne_of_lt (Heap.lt_size ho)
  rw [arm_assign_Tuple]
  refine wpAny_bind (wpAny_standAt ?_)
  unfold unpack
  refine wpAny_bind (wpAny_holding ?_)
  show wpAny _ _ (unpackItems (.ref a) 2 none) _ _ _
  unfold unpackItems
  refine wpAny_bind ?_
  unfold notIterableAtAll
  refine wpAny_bind (wpAny_specialOf hl.typeIs slot_list_iter.lookup (wpAny_pure ?_))
  simp only [Bool.false_eq_true, if_false]
  refine wpAny_bind (wpAny_holding (wpAny_pyIter_list hl ?_))
  refine wpAny_bind (wpAny_holding ?_)
  show wpAny _ _ (pyNext (.ref s.heap.objs.size) >>= _) _ _ _
  refine wpAny_bind (wpAny_pyNext_list_item (l := a) (i := 0) (items := #[p, q]) (x := p) ⟨_, Heap.get?_push_size _ rfl, rfl, rfl⟩ (hl.push _) rfl fun h₁ hit₁ hs₁ => ?_)
  have hl₁ : h₁.IsList a #[p, q] := (hl.push _).extBut hs₁.extBut hlt
  refine wpAny_bind (wpAny_holding ?_)
  show wpAny _ _ (pyNext (.ref s.heap.objs.size) >>= _) _ _ _
  refine wpAny_bind (wpAny_pyNext_list_item (i := 1) (x := q) hit₁ hl₁ rfl fun h₂ hit₂ hs₂ => ?_)
  have hl₂ : h₂.IsList a #[p, q] := hl₁.extBut hs₂.extBut hlt
  refine wpAny_bind (wpAny_holding (wpAny_pure (wpAny_pure (wpAny_pure ?_))))
  rw [if_neg (by simp)]
  refine wpAny_bind (wpAny_holding (wpAny_pyNext_list_end hh hit₂ hl₂ rfl fun h₃ he₃ => ?_))
  simp only [Option.isSome_none, Bool.false_eq_true, if_false]
  refine wpAny_pure (assignTwo (h h₃ fun b o hb e => ?_))
  exact he₃ b o hb (hs₂.extBut b o hb (hs₁.extBut b o hb (Heap.get?_push_of_some _ e)))
end
theorem Gw.pairsL {prog : Program} {w : World} {A : Around} (hh : A.handled = none) (I ax : Addr) (hne : ax ≠ I) (n : Nat) (T : Nat → Addr) (p q : Nat → Value) (hTI : ∀ j, j < n → T j ≠ I) (items : Array Value) (hn : items.size = n) (hit : ∀ j, j < n → items[j]? = some (.ref (T j)))
    (x y : Str) (px py pos : Pos) (k : Nat) :
    Gw prog w A (.Tuple [.Name x px, .Name y py] k pos) [x, y] I (I :: ax :: (List.range n).map T) [I] n (fun i vals => vals = [p i, q i])
      (fun i h => h.IsListIter I ax i ∧ h.IsList ax items ∧ ∀ j, j < n → h.IsList (T j) #[p j, q j]) where
  sub := fun b hb => by simp at hb; simp [hb]
  frame := fun _ _ _ st hk => ⟨st.1.at fun o e => hk I (by simp) o e, st.2.1.at fun o e => hk ax (by simp) o e,
    fun j hj => (st.2.2 j hj).at fun o e => hk (T j) (List.mem_cons_of_mem _ (List.mem_cons_of_mem _ (List.mem_map.mpr ⟨j, List.mem_range.mpr hj, rfl⟩))) o e⟩
  item := fun i s env Q E hi st h => by
    refine wpAny_pyNext_list_item st.1 st.2.1 (x := .ref (T i)) (hit i hi) fun h' hit' hs' => ?_
    have hls : ∀ j, j < n → h'.IsList (T j) #[p j, q j] := fun j hj => (st.2.2 j hj).extBut hs'.extBut (hTI j hj)
    refine wpAny_letOwnedTupleGo_listiter hit' ?_
    refine unpackTwo hh (hls i hi) fun h₃ he => ?_
    have up : ∀ b o, h'.get? b = some o → h₃.get? b = some o := fun b o e => he b o (Nat.ne_of_lt (Heap.lt_size e)) e
    exact h _ h₃ s.toks rfl ⟨hit'.at fun o e => up _ o e, (st.2.1.extBut hs'.extBut hne).at fun o e => up _ o e, fun j hj => (hls j hj).at fun o e => up _ o e⟩
      fun b o hb e => up b o (hs'.extBut b o (fun x => hb (by simp [x])) e)
  done := fun s Q E st hQ => wpAny_pyNext_list_end hh st.1 st.2.1 (by rw [Array.getElem?_eq_none_iff, hn]; exact Nat.le_refl _) fun h' he' => hQ h' s.toks fun b o hb e => he' b o (fun h => hb (by simp [h])) e
  self := fun _ _ _ _ st hQ => wpAny_pyIter_listiter st.1 hQ

section
variable {prog : Program} {w : World} {A : Around} {E : Value → Shared → Prop} {env : Env} {B : Bs} {L : Addr} {m : Str → Option Value} {mu : Led} {fz fz' : Fz} {mg mb : Str → Option Value} {t u : Tok}
/-- what stands behind a comprehension's source -/
noncomputable def CompK (prog : Program) (w : World) (A : Around) (elt tgt iter : Expr) (scope : Scope) (pos : Pos) (clo : List (Str × Addr)) (env : Env) (RR : Value → Addr → Result → Shared → Prop) (it : Value) (s : Shared) : Prop :=
  wpAny (model prog w) A (newList []) (fun acc s₃ => wpAny (model prog w) A (newFunctionEnv scope env.globals clo [] env.qual none .none (some env)) (fun cenv s₄ =>
      codeAny (model prog w) A (.compStart (.ListComp elt [⟨tgt, iter, [], 0⟩] scope pos) 0 it acc { cenv with scope := relabel scope env }) (RR acc cenv.locals) s₄) NE s₃) NE s
theorem e_comp {elt tgt iter : Expr} {scope : Scope} {pos : Pos} {clo : List (Str × Addr)} {Q : Value → Shared → Prop}
    (h : ∀ s, Fs B L m mu fz s → wpAny (model prog w) A (eval iter env) (fun x s₁ => wpAny (model prog w) A (pyIter x) (fun it s₂ => CompK prog w A elt tgt iter scope pos clo env (fun acc C => compPost (model prog w) A NE none Q acc C) it s₂) NE s₁) NE s)
    (hclos : closureFor scope env = pure clo := by rfl) (hkind : scope.kind = .function := by rfl) (hnames : ∀ x ∈ scope.names, x.2 = .local → scope.names.lookup x.1 = some .local := by decide)
    (hs : ∀ x, foldedSetIterable iter env x = pure x := by intro _; rfl) :
    ∀ s, Fs B L m mu fz s → wpAny (model prog w) A (eval (.ListComp elt [⟨tgt, iter, [], 0⟩] scope pos) env) Q NE s := fun s S => by
  rw [eval_ListComp]
  exact wpAny_comprehension_free (use := none) rfl hs hclos hkind hnames (h s S)
theorem x_assignComp {elt tgt iter : Expr} {scope : Scope} {pos py spos : Pos} {y : Str} {clo : List (Str × Addr)} {Q : Flow → Shared → Prop}
    (h : ∀ s, Fs B L m mu fz s → wpAny (model prog w) A (eval iter env) (fun x s₁ => wpAny (model prog w) A (pyIter x) (fun it s₂ => CompK prog w A elt tgt iter scope pos clo env (fun acc C => compPost (model prog w) A NE (some (assign (.Name y py) env)) (fun _ s' => Q .next s') acc C) it s₂) NE s₁) NE s)
    (hsw : swapsWith (.ListComp elt [⟨tgt, iter, [], 0⟩] scope pos) (some (.Name y py)) spos.line env = pure true := by rfl)
    (hclos : closureFor scope env = pure clo := by rfl) (hkind : scope.kind = .function := by rfl) (hnames : ∀ x ∈ scope.names, x.2 = .local → scope.names.lookup x.1 = some .local := by decide)
    (hs : ∀ x, foldedSetIterable iter env x = pure x := by intro _; rfl) :
    ∀ s, Fs B L m mu fz s → wpAny (model prog w) A (exec (.Assign [.Name y py] (.ListComp elt [⟨tgt, iter, [], 0⟩] scope pos) spos) env) Q NE s := fun s S => by
  rw [exec_Assign_Name_used _ _ _ _ hsw]
  refine wpAny_bind (wpAny_standAt (wpAny_bind ?_))
  show wpAny _ A (do let _ ← comprehension (.ListComp elt [⟨tgt, iter, [], 0⟩] scope pos) scope env _ (newList []) false (eval iter env) (some (assign (.Name y py) env))) _ _ s
  exact wpAny_bind (wpAny_mono (wpAny_comprehension_free (use := some (assign (.Name y py) env)) (Q := fun _ s' => Q .next s') rfl hs hclos hkind hnames (h s S)) (fun _ s' hq => wpAny_pure (wpAny_pure hq)) fun _ _ e => e)
theorem Fs.drop1 {s : Shared} {C : Addr} {oC : Obj} (S : Fs B L m ((C, oC) :: mu) fz s) {h' : Heap} (hs : Heap.SameBut C s.heap h') : Fs B L m mu fz { s with heap := h' } := by
  refine S.drop.but (wr := [C]) (tk := s.toks) (fun b o hb e => (hs.2 b (fun x => hb (by simp [x]))).trans e) ?_
  intro b hb
  rw [List.mem_singleton.mp hb]
  have hm := S.mus (C, oC) (by simp)
  refine ⟨hm.2.1, fun hm' => ?_, hm.2.2.1, hm.2.2.2⟩
  have nd := S.nd
  rw [List.map_cons, List.nodup_cons] at nd
  exact nd.1 hm'
theorem rr_none {D C : Addr} {o oC : Obj} {mC : Str → Option Value} {Q : Value → Shared → Prop} (hC : ONs oC mC) (h : ∀ s, Fs B L m ((D, o) :: mu) fz s → Q (.ref D) s) :
    ∀ s, Fs B L m ((C, oC) :: (D, o) :: mu) fz s → compPost (model prog w) A NE none Q (.ref D) C (.ok .next) s := fun s S =>
  ⟨mC, hC.ns (S.own (by simp)), fun h' hs => h _ (S.drop1 hs)⟩
theorem rr_use {D C : Addr} {o oC : Obj} {mC : Str → Option Value} {y : Str} {py : Pos} {P : Shared → Prop} (hC : ONs oC mC) (h : ∀ s, Fs B L (upd m y (.ref D)) ((D, o) :: mu) fz s → P s)
    (hL : env.locals = L := by rfl) (hk : env.scope.kind = .function := by rfl) (hl : env.kindOf y = some .local := by rfl) :
    ∀ s, Fs B L m ((C, oC) :: (D, o) :: mu) fz s → compPost (model prog w) A NE (some (assign (.Name y py) env)) (fun _ s' => P s') (.ref D) C (.ok .next) s := fun s S => by
  show wpAny _ A (assign (.Name y py) env (.ref D)) _ _ _
  exact wpAny_assign_Name (store (fun s' S' => ⟨mC, hC.ns (S'.own (by simp)), fun h' hs => h _ (S'.drop1 hs)⟩) hL hk hl s S)
/-- a comprehension over a list, item by item -/
theorem comp_list {α β : Type} [DecidableEq α] [DecidableEq β] (t1 : Ty α) (t2 : Ty β) (f : α → β) {elt iter : Expr} {scope : Scope} {pos px : Pos} {clo : List (Str × Addr)} {x : Str} {a : Addr} {n : Nat} {vs : List Value} {ys : List α} {RR : Value → Addr → Result → Shared → Prop}
    (hh : A.handled = none) (ha : fz a (listOf vs.toArray n)) (hv : Al (t1.R fz) vs ys) (hz : ys.length ≤ 1000000)
    (turn : ∀ y v fz₁ ex B' C mC, B'.f0 = fz → B.f0.le fz → B'.fs = L :: B.fs → y ∈ ys → t1.R fz₁ v y → fz.le fz₁ → ∀ s, Fs B' C (upd mC x v) ex fz₁ s →
      wpAny (model prog w) A (eval elt (compEnvC scope clo C env)) (fun u s' => ∃ fz₂, fz₁.le fz₂ ∧ t2.R fz₂ u (f y) ∧ Fs B' C (upd mC x v) ex fz₂ s') NE s)
    (fin : ∀ D acc k fz' C oC mC, fz.le fz' → Al (t2.R fz') acc (ys.map f) → ONs oC mC → ∀ s, Fs B L m ((C, oC) :: (D, listOf acc.toArray k) :: mu) fz' s → RR (.ref D) C (.ok .next) s)
    (hcell : ∀ y ∈ scope.names, y.2 ≠ .cell := by decide) (hkind : scope.kind = .function := by rfl) (hx : ∀ x' ∈ [x], scope.names.lookup x' = some .local := by decide) :
    ∀ s, Fs B L m mu fz s → wpAny (model prog w) A (pyIter (.ref a)) (fun it s₂ => CompK prog w A elt (.Name x px) iter scope pos clo env RR it s₂) NE s := fun s S => by
  have hls : s.heap.IsList a vs.toArray := ⟨_, S.get ha, rfl, n, rfl⟩
  refine wpAny_pyIter_list hls ?_
  have hne : a ≠ s.heap.objs.size := Nat.ne_of_lt (Heap.lt_size (S.get ha))
  have W := Walks.list (prog := prog) (w := w) hh s.heap.objs.size a hne vs.toArray
  have e : vs.toArray.size = ys.length := by simp [hv.length]
  rw [e] at W
  have S1 := S.alloc (tk := s.toks) { cls := .type "list_iterator", data := .fields #[.ref a, .int 0 0] }
  generalize s.heap.objs.size = I at S1 W ⊢
  refine gcomp (Gw.ofWalks W x px) (fun i acc fz' => Al (t2.R fz') acc ((ys.take i).map f)) (ex0 := [(I, { cls := .type "list_iterator", data := .fields #[.ref a, .int 0 0] })]) (mu := mu) (m := m) (L := L) rfl (fun i h hs b hb => ?_) (fun s S => ?_) .nil (fun b hb => ?_)
    (fun i vals h => by obtain ⟨v, rfl, _⟩ := h; rfl) hz hcell hkind hx ?_ ?_ _ S1
  · rw [List.mem_singleton.mp hb]
    obtain ⟨⟨o, ho, _⟩, _⟩ := hs
    exact ⟨o, ho⟩
  · exact ⟨⟨_, S.own (.head _), rfl, rfl⟩, ⟨_, S.get ha, rfl, n, rfl⟩⟩
  · rcases List.mem_cons.mp hb with rfl | hb
    · exact .inl (by simp)
    · rw [List.mem_singleton.mp hb]; exact .inr ⟨_, ha⟩
  · rintro i vals acc fz₁ ex B' C mC hf0 hle0 hfs hi ⟨v, rfl, hvi⟩ hle hJ s S
    have hi' : i < vs.length := by rw [hv.length]; exact hi
    have hv' : v = vs[i] := by
      have : vs.toArray[i]? = some vs[i] := by simp [hi']
      have hv2 : vs.toArray[i]? = some v := hvi
      rw [this] at hv2
      exact (Option.some.inj hv2).symm
    subst hv'
    refine wpAny_mono (turn ys[i] vs[i] fz₁ ex B' C mC hf0 hle0 hfs (List.getElem_mem hi) (t1.mono hle (hv.get hi' hi)) hle s S) (fun u s' h => ?_) fun _ _ x => x
    obtain ⟨fz₂, hle₂, hr, S'⟩ := h
    refine ⟨fz₂, hle₂, ?_, S'⟩
    rw [List.take_add_one, List.getElem?_eq_getElem hi, List.map_append]
    exact (hJ.mono fun _ _ r => t2.mono hle₂ r).append (.cons hr .nil)
  · intro D acc k fz' C oC mC hle hJ hC s S
    rw [List.take_length] at hJ
    exact fin D acc k fz' C oC mC hle hJ hC s S
/-- a comprehension over a range from 0 -/
theorem comp_range {β : Type} [DecidableEq β] (t2 : Ty β) (f : Nat → β) {elt iter : Expr} {scope : Scope} {pos px : Pos} {clo : List (Str × Addr)} {x : Str} {r : Addr} {n : Nat} {ta tb tc : Tok} {RR : Value → Addr → Result → Shared → Prop}
    (hh : A.handled = none) (hr : fz r { cls := .type "range", data := .fields #[.int 0 ta, .int n tb, .int 1 tc] }) (hz : n ≤ 1000000)
    (turn : ∀ i tk fz₁ ex B' C mC, B'.f0 = fz → B.f0.le fz → B'.fs = L :: B.fs → i < n → fz.le fz₁ → ∀ s, Fs B' C (upd mC x (.int (i : Nat) tk)) ex fz₁ s →
      wpAny (model prog w) A (eval elt (compEnvC scope clo C env)) (fun u s' => ∃ fz₂, fz₁.le fz₂ ∧ t2.R fz₂ u (f i) ∧ Fs B' C (upd mC x (.int (i : Nat) tk)) ex fz₂ s') NE s)
    (fin : ∀ D acc k fz' C oC mC, fz.le fz' → Al (t2.R fz') acc ((List.range n).map f) → ONs oC mC → ∀ s, Fs B L m ((C, oC) :: (D, listOf acc.toArray k) :: mu) fz' s → RR (.ref D) C (.ok .next) s)
    (hcell : ∀ y ∈ scope.names, y.2 ≠ .cell := by decide) (hkind : scope.kind = .function := by rfl) (hx : ∀ x' ∈ [x], scope.names.lookup x' = some .local := by decide) :
    ∀ s, Fs B L m mu fz s → wpAny (model prog w) A (pyIter (.ref r)) (fun it s₂ => CompK prog w A elt (.Name x px) iter scope pos clo env RR it s₂) NE s := fun s S => by
  refine wpAny_pyIter_range (S.get hr) (small_up (by omega) (by omega) (by omega) (by omega)) ?_
  have hn : Builtin.Range.rangeSize 0 n 1 = (n : Int) := by rw [rangeSize_one]; split <;> omega
  rw [hn]
  have W := Walks.range (prog := prog) (w := w) hh s.heap.objs.size 0 1 n
  have S1 := S.alloc (tk := s.toks) { cls := .type "range_iterator", data := .fields #[rawInt 0, rawInt n, rawInt 1] }
  generalize s.heap.objs.size = I at S1 W ⊢
  refine gcomp (Gw.ofWalks W x px) (fun i acc fz' => Al (t2.R fz') acc ((List.range i).map f)) (ex0 := [(I, { cls := .type "range_iterator", data := .fields #[rawInt 0, rawInt n, rawInt 1] })]) (mu := mu) (m := m) (L := L) rfl (fun i h hs b hb => ?_) (fun s S => ?_) .nil (fun b hb => .inl hb)
    (fun i vals h => by obtain ⟨v, rfl, _⟩ := h; rfl) hz hcell hkind hx ?_ ?_ _ S1
  · rw [List.mem_singleton.mp hb]; exact ⟨_, hs⟩
  · simp only [Int.ofNat_zero, Int.natCast_zero, Int.zero_mul, Int.add_zero, Int.sub_zero]
    exact S.own (by simp)
  · rintro i vals acc fz₁ ex B' C mC hf0 hle0 hfs hi ⟨v, rfl, tk, rfl⟩ hle hJ s S
    rw [Int.zero_add, Int.mul_one] at S ⊢
    refine wpAny_mono (turn i tk fz₁ ex B' C mC hf0 hle0 hfs hi hle s S) (fun u s' h => ?_) fun _ _ x => x
    obtain ⟨fz₂, hle₂, hr, S'⟩ := h
    refine ⟨fz₂, hle₂, ?_, S'⟩
    rw [List.range_succ, List.map_append]
    exact (hJ.mono fun _ _ r => t2.mono hle₂ r).append (.cons hr .nil)
  · intro D acc k fz' C oC mC hle hJ hC s S
    exact fin D acc k fz' C oC mC hle hJ hC s S
theorem ZA.nodup {z TI TO i1 i2 : Addr} (D : ZA z TI TO i1 i2) : True := trivial
/-- a comprehension over a zip of two bytes -/
theorem comp_zipB {β : Type} [DecidableEq β] (t2 : Ty β) (f : UInt8 × UInt8 → β) {elt iter : Expr} {scope : Scope} {pos px py pt : Pos} {k0 : Nat} {clo : List (Str × Addr)} {x y : Str} {z TO i1 i2 TI : Addr} {bs cs : List UInt8} {RR : Value → Addr → Result → Shared → Prop}
    (hh : A.handled = none) (D : ZA z TI TO i1 i2) (hTI : fz TI (tupOf #[.ref i1, .ref i2])) (hz : bs.length ≤ 1000000)
    (turn : ∀ b c tk tk' fz₁ ex B' C mC, B'.f0 = fz → B.f0.le fz → B'.fs = L :: B.fs → (b, c) ∈ bs.zip cs → fz.le fz₁ → ∀ s, Fs B' C (upd (upd mC x (.int (b.toNat : Nat) tk)) y (.int (c.toNat : Nat) tk')) ex fz₁ s →
      wpAny (model prog w) A (eval elt (compEnvC scope clo C env)) (fun u s' => ∃ fz₂, fz₁.le fz₂ ∧ t2.R fz₂ u (f (b, c)) ∧ Fs B' C (upd (upd mC x (.int (b.toNat : Nat) tk)) y (.int (c.toNat : Nat) tk')) ex fz₂ s') NE s)
    (fin : ∀ D acc k fz' C oC mC, fz.le fz' → Al (t2.R fz') acc ((bs.zip cs).map f) → ONs oC mC → ∀ s, Fs B L m ((C, oC) :: (D, listOf acc.toArray k) :: mu) fz' s → RR (.ref D) C (.ok .next) s)
    (hcell : ∀ y ∈ scope.names, y.2 ≠ .cell := by decide) (hkind : scope.kind = .function := by rfl) (hx : ∀ x' ∈ [x, y], scope.names.lookup x' = some .local := by decide) :
    ∀ s, Fs B L m (zLed z TO i1 i2 TI bs.toArray cs.toArray t u ++ mu) fz s → wpAny (model prog w) A (pyIter (.ref z)) (fun it s₂ => CompK prog w A elt (.Tuple [.Name x px, .Name y py] k0 pt) iter scope pos clo env RR it s₂) NE s := fun s S => by
  have hzz : s.heap.get? z = some (zipObj TI TO) := S.own (by simp [zLed])
  refine wpAny_pyIter_zip hzz ?_
  have W := Gw.zipB (prog := prog) (w := w) hh z TI TO i1 i2 D bs.toArray cs.toArray t u x y px py pt k0
  have en : min bs.toArray.size cs.toArray.size = (bs.zip cs).length := by simp
  rw [en] at W
  refine gcomp W (fun i acc fz' => Al (t2.R fz') acc (((bs.zip cs).take i).map f)) (ex0 := zLed z TO i1 i2 TI bs.toArray cs.toArray t u) (mu := mu) (m := m) (L := L) rfl (fun i h hs b hb => ?_) (fun s S => ?_) .nil (fun b hb => ?_)
    (fun i vals h => by obtain ⟨_, _, _, _, _, _, rfl⟩ := h; rfl) (by rw [List.length_zip]; omega) hcell hkind hx ?_ ?_ _ S
  · obtain ⟨h1, h2, ⟨a, c, h3⟩, ⟨o4, h4, _⟩, ⟨o5, h5, _⟩⟩ := hs
    simp at hb
    rcases hb with rfl | rfl | rfl | rfl
    · exact ⟨_, h1⟩
    · exact ⟨_, h3⟩
    · exact ⟨_, h4⟩
    · exact ⟨_, h5⟩
  · exact ⟨S.own (.head _), S.get hTI, ⟨.none, .none, S.own (.tail _ (.head _))⟩, ⟨_, S.own (.tail _ (.tail _ (.head _))), rfl, rfl⟩, ⟨_, S.own (.tail _ (.tail _ (.tail _ (.head _)))), rfl, rfl⟩⟩
  · simp at hb
    rcases hb with rfl | rfl | rfl | rfl | rfl
    · exact .inl (by simp)
    · exact .inr ⟨_, hTI⟩
    · exact .inl (by simp)
    · exact .inl (by simp)
    · exact .inl (by simp)
  · rintro i vals acc fz₁ ex B' C mC hf0 hle0 hfs hi ⟨b, c, t1, t2', hb, hc, rfl⟩ hle hJ s S
    have hbc : (bs.zip cs)[i]? = some (b, c) := by
      have hb' : bs[i]? = some b := by simpa using hb
      have hc' : cs[i]? = some c := by simpa using hc
      rw [List.getElem?_zip_eq_some]; exact ⟨hb', hc'⟩
    refine wpAny_mono (turn b c t1 t2' fz₁ ex B' C mC hf0 hle0 hfs (List.mem_of_getElem? hbc) hle s S) (fun u s' h => ?_) fun _ _ x => x
    obtain ⟨fz₂, hle₂, hr, S'⟩ := h
    refine ⟨fz₂, hle₂, ?_, S'⟩
    rw [List.take_add_one, hbc, List.map_append]
    exact (hJ.mono fun _ _ r => t2.mono hle₂ r).append (.cons hr .nil)
  · intro D acc k fz' C oC mC hle hJ hC s S
    rw [List.take_length] at hJ
    exact fin D acc k fz' C oC mC hle hJ hC s S
end
end Mine
end
-- text MGen3
section
open PySem PySem.W PyProof.Rows PySem.Calls PySem.SeqAt
set_option Elab.async false
set_option maxRecDepth 100000
set_option linter.unusedVariables false
namespace Mine
/-- lists of two -/
noncomputable def TTwo {α β : Type} [DecidableEq α] [DecidableEq β] (t : Ty α) (u : Ty β) : Ty (α × β) where
  R := fun f v x => ∃ a n p q, v = .ref a ∧ f a (listOf [p, q].toArray n) ∧ t.R f p x.1 ∧ u.R f q x.2
  mono := by rintro f g v x h ⟨a, n, p, q, rfl, ha, h1, h2⟩; exact ⟨a, n, p, q, rfl, h _ _ ha, t.mono h h1, u.mono h h2⟩
  nf := fun h b t e => by obtain ⟨_, _, _, _, rfl, _⟩ := h; cases e
  dep := t.dep + u.dep + 1
  uniq := by
    rintro f s v ⟨x1, x2⟩ ⟨y1, y2⟩ hf ⟨a, n, p, q, rfl, ha, h1, h2⟩ ⟨b, k, p', q', e, hb, k1, k2⟩
    injection e with e
    subst e
    have e := hf.uniq ha hb
    simp only [W.listOf, Obj.mk.injEq, Data.seq.injEq, true_and, and_true] at e
    have e2 : [p, q] = [p', q'] := lta_inj e.1
    injection e2 with e3 e4
    injection e4 with e4 _
    subst e3 e4
    have e5 := t.uniq hf h1 k1
    have e6 := u.uniq hf h2 k2
    dsimp only at e5 e6
    rw [e5, e6]
  rc := by
    rintro A s f v w ⟨x1, x2⟩ ⟨y1, y2⟩ hf hu ⟨a, n, p, q, rfl, ha, h1, h2⟩ ⟨b, k, p', q', rfl, hb, k1, k2⟩
    have i1 : s.heap.IsList a #[p, q] := ⟨_, hf _ _ ha, rfl, n, rfl⟩
    have i2 : s.heap.IsList b #[p', q'] := ⟨_, hf _ _ hb, rfl, k, rfl⟩
    have e1 := t.eq (A := A.in1) hf (by have := hu; show A.units + 1 + t.dep < cLine; omega) h1 k1
    have e2 := u.eq (A := A.in1) hf (by have := hu; show A.units + 1 + u.dep < cLine; omega) h2 k2
    have := RcAt.lists (A := A) (e := fun j => if j = 0 then decide (x1 = y1) else decide (x2 = y2)) i1 i2 rfl (by omega) (fun j j1 j2 => by
      match j, j1, j2 with
      | 0, _, _ => exact e1
      | 1, _, _ => exact e2)
    have e3 : ((List.range (#[p, q] : Array Value).size).all (fun j => if j = 0 then decide (x1 = y1) else decide (x2 = y2))) = decide ((x1, x2) = (y1, y2)) := by
      show ([0, 1].all (fun j => if j = 0 then decide (x1 = y1) else decide (x2 = y2))) = _
      rw [Bool.eq_iff_iff]; simp
    rw [e3] at this
    exact this
theorem two_skolem {α β : Type} [DecidableEq α] [DecidableEq β] {t : Ty α} {u : Ty β} {f : Fz} {vs : List Value} {ys : List (α × β)} (h : Al ((TTwo t u).R f) vs ys) :
    ∃ (T : Nat → Addr) (p q : Nat → Value), ∀ j, (hj : j < ys.length) → vs.toArray[j]? = some (.ref (T j)) ∧ (∃ n, f (T j) (listOf [p j, q j].toArray n)) ∧ t.R f (p j) (ys[j]).1 ∧ u.R f (q j) (ys[j]).2 := by
  have H : ∀ j, ∃ x : Addr × Value × Value, (hj : j < ys.length) → vs.toArray[j]? = some (.ref x.1) ∧ (∃ n, f x.1 (listOf [x.2.1, x.2.2].toArray n)) ∧ t.R f x.2.1 (ys[j]).1 ∧ u.R f x.2.2 (ys[j]).2 := by
    intro j
    by_cases hj : j < ys.length
    · have hj' : j < vs.length := by rw [h.length]; exact hj
      obtain ⟨a, n, p, q, e, ha, h1, h2⟩ := h.get hj' hj
      exact ⟨(a, p, q), fun _ => ⟨by simp [hj', e], ⟨n, ha⟩, h1, h2⟩⟩
    · exact ⟨(0, .none, .none), fun hj' => absurd hj' hj⟩
  obtain ⟨F, hF⟩ := Classical.axiomOfChoice H
  exact ⟨fun j => (F j).1, fun j => (F j).2.1, fun j => (F j).2.2, hF⟩
section
variable {prog : Program} {w : World} {A : Around} {E : Value → Shared → Prop} {env : Env} {B : Bs} {L : Addr} {m : Str → Option Value} {mu : Led} {fz fz' : Fz} {mg mb : Str → Option Value} {t u : Tok}
noncomputable abbrev liObj (a : Addr) : Obj := { cls := .type "list_iterator", data := .fields #[.ref a, .int 0 0] }
theorem p_iterL {a : Addr} {n : Nat} {vs : List Value} {Q : Value → Shared → Prop} (ha : fz a (listOf vs.toArray n)) (h : ∀ I, a ≠ I → ∀ s, Fs B L m ([(I, liObj a)] ++ mu) fz s → Q (.ref I) s) :
    ∀ s, Fs B L m mu fz s → wpAny (model prog w) A (pyIter (.ref a)) Q E s := fun s S =>
  wpAny_pyIter_list ⟨_, S.get ha, rfl, n, rfl⟩ (h _ (Nat.ne_of_lt (Heap.lt_size (S.get ha))) _ (S.alloc (tk := s.toks) (liObj a)))
/-- a comprehension over a list of lists of two -/
theorem comp_pairs {α β γ : Type} [DecidableEq α] [DecidableEq β] [DecidableEq γ] (t1 : Ty α) (t2 : Ty β) (t3 : Ty γ) (f : α × β → γ) {elt iter : Expr} {scope : Scope} {pos px py pt : Pos} {k0 : Nat} {clo : List (Str × Addr)} {x y : Str} {a : Addr} {n : Nat} {vs : List Value} {ys : List (α × β)} {RR : Value → Addr → Result → Shared → Prop}
    (hh : A.handled = none) (ha : fz a (listOf vs.toArray n)) (hv : Al ((TTwo t1 t2).R fz) vs ys) (hz : ys.length ≤ 1000000)
    (turn : ∀ b c v v' fz₁ ex B' C mC, B'.f0 = fz → B.f0.le fz → B'.fs = L :: B.fs → (b, c) ∈ ys → t1.R fz₁ v b → t2.R fz₁ v' c → fz.le fz₁ → ∀ s, Fs B' C (upd (upd mC x v) y v') ex fz₁ s →
      wpAny (model prog w) A (eval elt (compEnvC scope clo C env)) (fun u s' => ∃ fz₂, fz₁.le fz₂ ∧ t3.R fz₂ u (f (b, c)) ∧ Fs B' C (upd (upd mC x v) y v') ex fz₂ s') NE s)
    (fin : ∀ D acc k fz' C oC mC, fz.le fz' → Al (t3.R fz') acc (ys.map f) → ONs oC mC → ∀ s, Fs B L m ((C, oC) :: (D, listOf acc.toArray k) :: mu) fz' s → RR (.ref D) C (.ok .next) s)
    (hcell : ∀ y ∈ scope.names, y.2 ≠ .cell := by decide) (hkind : scope.kind = .function := by rfl) (hx : ∀ x' ∈ [x, y], scope.names.lookup x' = some .local := by decide) :
    ∀ s, Fs B L m mu fz s → wpAny (model prog w) A (pyIter (.ref a)) (fun it s₂ => CompK prog w A elt (.Tuple [.Name x px, .Name y py] k0 pt) iter scope pos clo env RR it s₂) NE s := by
  refine p_iterL ha fun I hne => ?_
  intro s S
  obtain ⟨T, p, q, H⟩ := two_skolem hv
  have hTI : ∀ j, j < ys.length → T j ≠ I := fun j hj e => by
    obtain ⟨_, ⟨n', hT⟩, _⟩ := H j hj
    exact (S.mus (I, liObj a) (by simp)).2.2.1 _ (e ▸ hT)
  have W := Gw.pairsL (prog := prog) (w := w) hh I a hne ys.length T p q hTI vs.toArray (by simp [hv.length]) (fun j hj => (H j hj).1) x y px py pt k0
  revert s S
  refine gcomp W (fun i acc fz' => Al (t3.R fz') acc ((ys.take i).map f)) (ex0 := [(I, liObj a)]) (mu := mu) (m := m) (L := L) rfl (fun i h hs b hb => ?_) (fun s S => ?_) .nil (fun b hb => ?_)
    (fun i vals h => by subst h; rfl) hz hcell hkind hx ?_ ?_
  · rw [List.mem_singleton.mp hb]
    obtain ⟨⟨o, ho, _⟩, _⟩ := hs
    exact ⟨o, ho⟩
  · refine ⟨⟨_, S.own (.head _), rfl, rfl⟩, ⟨_, S.get ha, rfl, n, rfl⟩, fun j hj => ?_⟩
    obtain ⟨_, ⟨n', hT⟩, _⟩ := H j hj
    exact ⟨_, S.get hT, rfl, n', rfl⟩
  · rcases List.mem_cons.mp hb with rfl | hb
    · exact .inl (by simp)
    · rcases List.mem_cons.mp hb with rfl | hb
      · exact .inr ⟨_, ha⟩
      · obtain ⟨j, hj, rfl⟩ := List.mem_map.mp hb
        obtain ⟨_, ⟨n', hT⟩, _⟩ := H j (List.mem_range.mp hj)
        exact .inr ⟨_, hT⟩
  · rintro i vals acc fz₁ ex B' C mC hf0 hle0 hfs hi rfl hle hJ s S
    obtain ⟨_, _, h1, h2⟩ := H i hi
    refine wpAny_mono (turn ys[i].1 ys[i].2 _ _ fz₁ ex B' C mC hf0 hle0 hfs (List.getElem_mem hi) (t1.mono hle h1) (t2.mono hle h2) hle s S) (fun u s' h => ?_) fun _ _ x => x
    obtain ⟨fz₂, hle₂, hr, S'⟩ := h
    refine ⟨fz₂, hle₂, ?_, S'⟩
    rw [List.take_add_one, List.getElem?_eq_getElem hi, List.map_append]
    exact (hJ.mono fun _ _ r => t3.mono hle₂ r).append (.cons hr .nil)
  · intro D acc k fz' C oC mC hle hJ hC s S
    rw [List.take_length] at hJ
    exact fin D acc k fz' C oC mC hle hJ hC s S
/-- a for over a list of lists of two -/
theorem for_pairs {α β : Type} [DecidableEq α] [DecidableEq β] (t1 : Ty α) (t2 : Ty β) {px py pt : Pos} {k0 : Nat} {x y : Str} {a : Addr} {n : Nat} {vs : List Value} {ys : List (α × β)} {body : List Stmt} {Q : Flow → Shared → Prop}
    (J : Nat → (Str → Option Value) → Led → Fz → Prop) (hh : A.handled = none) (ha : fz a (listOf vs.toArray n)) (hv : Al ((TTwo t1 t2).R fz) vs ys) (hJ : J 0 m mu fz)
    (turn : ∀ i v v' m₁ mu₁ fz₁ ex, (hi : i < ys.length) → t1.R fz₁ v ys[i].1 → t2.R fz₁ v' ys[i].2 → fz.le fz₁ → J i m₁ mu₁ fz₁ → ∀ s, Fs B L (upd (upd m₁ x v) y v') (mu₁ ++ ex) fz₁ s →
      wpAny (model prog w) A (execs body env) (TurnPost B L Q (J (i + 1)) ex fz₁) NE s)
    (done : ∀ m' mu' fz', fz.le fz' → J ys.length m' mu' fz' → ∀ s, Fs B L m' mu' fz' s → Q .next s)
    (hL : env.locals = L := by rfl) (hk : env.scope.kind = .function := by rfl) (hl : ∀ x' ∈ [x, y], env.kindOf x' = some .local := by decide) :
    ∀ s, Fs B L m mu fz s → wpAny (model prog w) A (pyIter (.ref a)) (fun it s₂ => codeAny (model prog w) A (.forLoop (.Tuple [.Name x px, .Name y py] k0 pt) it body [] env) (LoopPost prog w A env Q) s₂) NE s := by
  refine p_iterL ha fun I hne => ?_
  intro s S
  obtain ⟨T, p, q, H⟩ := two_skolem hv
  have hTI : ∀ j, j < ys.length → T j ≠ I := fun j hj e => by
    obtain ⟨_, ⟨n', hT⟩, _⟩ := H j hj
    exact (S.mus (I, liObj a) (by simp)).2.2.1 _ (e ▸ hT)
  have W := Gw.pairsL (prog := prog) (w := w) hh I a hne ys.length T p q hTI vs.toArray (by simp [hv.length]) (fun j hj => (H j hj).1) x y px py pt k0
  revert s S
  refine gfor W J (ex0 := [(I, liObj a)]) (mu := mu) rfl (fun i h hs b hb => ?_) (fun s S => ?_) hJ (fun b hb => ?_) (fun i vals h => by subst h; rfl) ?_ done hL hk hl
  · rw [List.mem_singleton.mp hb]
    obtain ⟨⟨o, ho, _⟩, _⟩ := hs
    exact ⟨o, ho⟩
  · refine ⟨⟨_, S.own (.head _), rfl, rfl⟩, ⟨_, S.get ha, rfl, n, rfl⟩, fun j hj => ?_⟩
    obtain ⟨_, ⟨n', hT⟩, _⟩ := H j hj
    exact ⟨_, S.get hT, rfl, n', rfl⟩
  · rcases List.mem_cons.mp hb with rfl | hb
    · exact .inl (by simp)
    · rcases List.mem_cons.mp hb with rfl | hb
      · exact .inr ⟨_, ha⟩
      · obtain ⟨j, hj, rfl⟩ := List.mem_map.mp hb
        obtain ⟨_, ⟨n', hT⟩, _⟩ := H j (List.mem_range.mp hj)
        exact .inr ⟨_, hT⟩
  · rintro i vals m₁ mu₁ fz₁ ex hi rfl hle hJ s S
    obtain ⟨_, _, h1, h2⟩ := H i hi
    exact turn i _ _ m₁ mu₁ fz₁ ex hi (t1.mono hle h1) (t2.mono hle h2) hle hJ s S

-- a zip of two lists
noncomputable def zLedL (z TO i1 i2 TI a b : Addr) : Led := [(z, zipObj TI TO), (TO, tupOf #[.none, .none]), (i1, liObj a), (i2, liObj b)]
theorem p_zipL {a b : Addr} {n k : Nat} {vs ws : List Value} {Q : Value → Shared → Prop} (ha : fz a (listOf vs.toArray n)) (hb : fz b (listOf ws.toArray k))
    (h : ∀ z TO i1 i2 TI, ZipApart z TI TO i1 i2 a b → ∀ s, Fs B L m (zLedL z TO i1 i2 TI a b ++ mu) (fz.add TI (tupOf #[.ref i1, .ref i2])) s → Q (.ref z) s) :
    ∀ s, Fs B L m mu fz s → wpAny (model prog w) A (call (.type "zip") [.ref a, .ref b]) Q E s := fun s S => by
  have la := Heap.lt_size (S.get ha)
  have lb := Heap.lt_size (S.get hb)
  refine callType_new F.called_zip (by decide) (F.typeCall_zip_2 _ _) (F.newCall_zip_2 _ _) (fun obj => F.args_object_init_3 obj _ _) F.entry_zip_new (meets_zip_new a b vs.toArray ws.toArray) ?_
  have S1 := S.alloc (tk := s.toks) (liObj a)
  have S2 := S1.alloc (tk := s.toks) (liObj b)
  have S3 := S2.allocF (tk := s.toks) (tupOf #[.ref s.heap.objs.size, .ref (zipH1 s.heap a).objs.size])
  have S4 := S3.alloc (tk := s.toks) (tupOf #[.none, .none])
  have S5 := S4.alloc (tk := s.toks) (zipObj (zipH2 s.heap a b).objs.size (zipH3 s.heap a b).objs.size)
  have z1 : (zipH1 s.heap a).objs.size = s.heap.objs.size + 1 := Heap.size_push ..
  have z2 : (zipH2 s.heap a b).objs.size = s.heap.objs.size + 2 := by rw [Heap.size_push, z1]
  have z3 : (zipH3 s.heap a b).objs.size = s.heap.objs.size + 3 := by rw [Heap.size_push, z2]
  have z4 : (zipH4 s.heap a b).objs.size = s.heap.objs.size + 4 := by rw [Heap.size_push, z3]
  refine ⟨⟨_, S.get ha, rfl, n, rfl⟩, ⟨_, S.get hb, rfl, k, rfl⟩, ⟨_, Heap.get?_push_size _ rfl, rfl⟩, ?_⟩
  refine h (zipH4 s.heap a b).objs.size (zipH3 s.heap a b).objs.size s.heap.objs.size (zipH1 s.heap a).objs.size (zipH2 s.heap a b).objs.size ?_ _ (S5.perm ?_)
  · have la' : @LT.lt Nat _ a s.heap.objs.size := la
    have lb' : @LT.lt Nat _ b s.heap.objs.size := lb
    constructor <;> exact fun e => by have e' : (_ : Nat) = _ := e; omega
  · unfold zLedL
    refine .cons _ (.cons _ ?_)
    exact .swap _ _ _
theorem for_zipL {px py pt : Pos} {k0 : Nat} {x y : Str} {a b : Addr} {n k : Nat} {vs ws : List Value} {z TO i1 i2 TI : Addr} {body : List Stmt} {Q : Flow → Shared → Prop}
    (J : Nat → (Str → Option Value) → Led → Fz → Prop) (hh : A.handled = none) (D : ZipApart z TI TO i1 i2 a b) (ha : fz a (listOf vs.toArray n)) (hb : fz b (listOf ws.toArray k)) (hTI : fz TI (tupOf #[.ref i1, .ref i2])) (hJ : J 0 m mu fz)
    (turn : ∀ i m₁ mu₁ fz₁ ex, (h1 : i < vs.length) → (h2 : i < ws.length) → fz.le fz₁ → J i m₁ mu₁ fz₁ → ∀ s, Fs B L (upd (upd m₁ x vs[i]) y ws[i]) (mu₁ ++ ex) fz₁ s →
      wpAny (model prog w) A (execs body env) (TurnPost B L Q (J (i + 1)) ex fz₁) NE s)
    (done : ∀ m' mu' fz', fz.le fz' → J (min vs.length ws.length) m' mu' fz' → ∀ s, Fs B L m' mu' fz' s → Q .next s)
    (hL : env.locals = L := by rfl) (hk : env.scope.kind = .function := by rfl) (hl : ∀ x' ∈ [x, y], env.kindOf x' = some .local := by decide) :
    ∀ s, Fs B L m (zLedL z TO i1 i2 TI a b ++ mu) fz s → wpAny (model prog w) A (pyIter (.ref z)) (fun it s₂ => codeAny (model prog w) A (.forLoop (.Tuple [.Name x px, .Name y py] k0 pt) it body [] env) (LoopPost prog w A env Q) s₂) NE s := fun s S => by
  have hzz : s.heap.get? z = some (zipObj TI TO) := S.own (.head _)
  refine wpAny_pyIter_zip hzz ?_
  have W := Gw.ofWalksU hh (WalksT.zip2 (prog := prog) (w := w) hh z TI TO i1 i2 a b D vs.toArray ws.toArray).toU x y px py pt k0 (fun i a h => by obtain ⟨p, q, _, _, e⟩ := h; exact ⟨p, q, e⟩)
    (fun i h h' st hk => by
      obtain ⟨hz, hTI, ⟨p, q, hTO⟩, ⟨o1, h1, r1⟩, ⟨o2, h2, r2⟩, ⟨o3, h3, r3⟩, ⟨o4, h4, r4⟩⟩ := st
      exact ⟨hk _ _ (Heap.lt_size hz) hz, hk _ _ (Heap.lt_size hTI) hTI, ⟨p, q, hk _ _ (Heap.lt_size hTO) hTO⟩, ⟨o1, hk _ _ (Heap.lt_size h1) h1, r1⟩, ⟨o2, hk _ _ (Heap.lt_size h2) h2, r2⟩, ⟨o3, hk _ _ (Heap.lt_size h3) h3, r3⟩, ⟨o4, hk _ _ (Heap.lt_size h4) h4, r4⟩⟩)
  have en : min vs.toArray.size ws.toArray.size = min vs.length ws.length := by simp
  rw [en] at W
  revert s S
  intro s S _
  refine gfor W J (ex0 := zLedL z TO i1 i2 TI a b) (mu := mu) rfl (fun i h hs b hb => ?_) (fun s S => ?_) hJ (fun b hb => ?_) (fun i vals h => by obtain ⟨p, q, _, _, e⟩ := h; rw [show vals = [p, q] from lta_inj e]; rfl) ?_ done hL hk hl s S
  · obtain ⟨hz, hTI, ⟨p, q, hTO⟩, ⟨o1, h1, r1⟩, ⟨o2, h2, r2⟩, _⟩ := hs
    simp at hb
    rcases hb with rfl | rfl | rfl | rfl
    · exact ⟨_, hz⟩
    · exact ⟨_, hTO⟩
    · exact ⟨_, h1⟩
    · exact ⟨_, h2⟩
  · exact ⟨S.own (.head _), S.get hTI, ⟨.none, .none, S.own (.tail _ (.head _))⟩, ⟨_, S.own (.tail _ (.tail _ (.head _))), rfl, rfl⟩, ⟨_, S.own (.tail _ (.tail _ (.tail _ (.head _)))), rfl, rfl⟩,
      ⟨_, S.get ha, rfl, n, rfl⟩, ⟨_, S.get hb, rfl, k, rfl⟩⟩
  · simp at hb
    rcases hb with rfl | rfl | rfl | rfl | rfl | rfl | rfl
    · exact .inl (by simp)
    · exact .inr ⟨_, hTI⟩
    · exact .inl (by simp)
    · exact .inl (by simp)
    · exact .inl (by simp)
    · exact .inr ⟨_, ha⟩
    · exact .inr ⟨_, ‹fz _ (listOf ws.toArray k)›⟩
  · rintro i vals m₁ mu₁ fz₁ ex hi ⟨p, q, hp, hq, e⟩ hle hJ s S
    have h1 : i < vs.length := Nat.lt_of_lt_of_le hi (Nat.min_le_left ..)
    have h2 : i < ws.length := Nat.lt_of_lt_of_le hi (Nat.min_le_right ..)
    have e1 : p = vs[i] := by simpa [h1] using hp.symm
    have e2 : q = ws[i] := by simpa [h2] using hq.symm
    have e3 : vals = [vs[i], ws[i]] := by rw [show vals = [p, q] from lta_inj e, e1, e2]
    subst e3
    exact turn i m₁ mu₁ fz₁ ex h1 h2 hle hJ s S
end
end Mine
end
-- text MOp2
section
open PySem PySem.W PyProof.Rows PySem.Calls PySem.SeqAt
set_option Elab.async false
set_option maxRecDepth 100000
set_option linter.unusedVariables false
namespace Mine
section
variable {prog : Program} {w : World} {A : Around} {E : Value → Shared → Prop} {env : Env} {B : Bs} {L : Addr} {m : Str → Option Value} {mu : Led} {fz fz' : Fz} {mg mb : Str → Option Value} {t u : Tok}
noncomputable abbrev slObj (l u k : Value) : Obj := { cls := .type "slice", data := .fields #[l, u, k] }
theorem e_slice {lower upper step : Option Expr} {p : Pos} {Q : Value → Shared → Prop}
    (h : ∀ s, Fs B L m mu fz s → wpAny (model prog w) A (evalPart lower env) (fun l s₁ => wpAny (model prog w) A (evalPart upper env) (fun u s₂ => wpAny (model prog w) A (evalPart step env) (fun st s₃ =>
      wpAny (model prog w) A (newFields "slice" [l, u, st]) Q E s₃) E s₂) E s₁) E s) : ∀ s, Fs B L m mu fz s → wpAny (model prog w) A (eval (.Slice lower upper step p) env) Q E s := fun s S => by
  rw [arm_eval_Slice]
  exact wpAny_bind (wpAny_mono (h s S) (fun l s₁ h₁ => wpAny_bind (wpAny_holding (wpAny_mono h₁ (fun u s₂ h₂ => wpAny_bind (wpAny_holding (wpAny_mono h₂ (fun st s₃ h₃ => h₃) fun _ _ x => x))) fun _ _ x => x))) fun _ _ x => x)
theorem ep_none {Q : Value → Shared → Prop} (h : ∀ s, Fs B L m mu fz s → Q .none s) : ∀ s, Fs B L m mu fz s → wpAny (model prog w) A (evalPart none env) Q E s := fun s S => wpAny_pure (h s S)
theorem ep_some {e : Expr} {Q : Value → Shared → Prop} (h : ∀ s, Fs B L m mu fz s → wpAny (model prog w) A (eval e env) Q E s) : ∀ s, Fs B L m mu fz s → wpAny (model prog w) A (evalPart (some e) env) Q E s := h
theorem p_slObj {l u k : Value} {Q : Value → Shared → Prop} (h : ∀ sl s, Fs B L m mu (fz.add sl (slObj l u k)) s → Q (.ref sl) s) : ∀ s, Fs B L m mu fz s → wpAny (model prog w) A (newFields "slice" [l, u, k]) Q E s := fun s S =>
  wpAny_newObj_type (h _ _ (S.allocF (tk := s.toks) (slObj l u k)))
/-- a cut of a list is a new list -/
theorem p_cut {value slice : Expr} {a sl : Addr} {o : Obj} {its : Array Value} {n : Nat} {vl vu vk : Value} {lo hi st : Option Int} {ops : List Value} {Q : Value → Shared → Prop} (ha : fz a o ∨ (a, o) ∈ mu) (hc : o.cls = .type "list") (hd : o.data = .seq its n) (hsl : fz sl (slObj vl vu vk))
    (pl : IsPart vl lo) (pu : IsPart vu hi) (pk : IsPart vk st) (h0 : st ≠ some 0) (hz : its.size ≤ 1000000)
    (h : ∀ b s, Fs B L m ((b, listOf (slicePick its lo hi st) 0) :: mu) fz s → Q (.ref b) s)
    (hs : subscripted slice false (.ref a) (.ref sl) = operate ops (getItem (.ref a) (.ref sl))) :
    ∀ s, Fs B L m mu fz s → wpAny (model prog w) A (subscriptTail value slice (.ref a) (.ref sl)) Q E s := fun s S => by
  have hl : s.heap.IsList a its := ⟨o, ha.elim S.get S.own, hc, n, hd⟩
  refine tail_any hl.typeIs list_getitem_lookup (wpAny_getItem_list_slice hl ⟨_, S.get hsl, rfl, rfl⟩ pl pu pk h0 (h _ _ (S.alloc (tk := s.toks) (listOf (slicePick its lo hi st) 0))) (by show its.size ≤ 16777216; omega)) hs
theorem p_cutFrom {value slice : Expr} {a sl : Addr} {vs : List Value} {n : Nat} {k : Int} {Q : Value → Shared → Prop} (ha : fz a (listOf vs.toArray n) ∨ (a, listOf vs.toArray n) ∈ mu) (hsl : fz sl (slObj (.int k t) .none .none)) (hk : 0 ≤ k) (hz : vs.length ≤ 1000000)
    (h : ∀ b s, Fs B L m ((b, listOf (vs.drop k.toNat).toArray 0) :: mu) fz s → Q (.ref b) s)
    (hs : subscripted slice false (.ref a) (.ref sl) = operate [.ref sl, .ref a] (getItem (.ref a) (.ref sl)) := by with_unfolding_all rfl) :
    ∀ s, Fs B L m mu fz s → wpAny (model prog w) A (subscriptTail value slice (.ref a) (.ref sl)) Q E s := by
  refine p_cut ha rfl rfl hsl (.int k t) .none .none (by simp) (by simpa using hz) ?_ hs
  have e : slicePick vs.toArray (some k) none none = (vs.drop k.toNat).toArray := by
    obtain ⟨j, rfl⟩ := Int.eq_ofNat_of_zero_le hk
    show slicePick vs.toArray (some (j : Int)) none none = _
    rw [slicePick_from']; simp
  rw [e]; exact h
theorem p_cutTo {value slice : Expr} {a sl : Addr} {vs : List Value} {n : Nat} {k : Int} {Q : Value → Shared → Prop} (ha : fz a (listOf vs.toArray n) ∨ (a, listOf vs.toArray n) ∈ mu) (hsl : fz sl (slObj .none (.int k t) .none)) (hk : 0 ≤ k) (hz : vs.length ≤ 1000000)
    (h : ∀ b s, Fs B L m ((b, listOf (vs.take k.toNat).toArray 0) :: mu) fz s → Q (.ref b) s)
    (hs : subscripted slice false (.ref a) (.ref sl) = operate [.ref sl, .ref a] (getItem (.ref a) (.ref sl)) := by with_unfolding_all rfl) :
    ∀ s, Fs B L m mu fz s → wpAny (model prog w) A (subscriptTail value slice (.ref a) (.ref sl)) Q E s := by
  refine p_cut ha rfl rfl hsl .none (.int k t) .none (by simp) (by simpa using hz) ?_ hs
  have e : slicePick vs.toArray none (some k) none = (vs.take k.toNat).toArray := by
    obtain ⟨j, rfl⟩ := Int.eq_ofNat_of_zero_le hk
    show slicePick vs.toArray none (some (j : Int)) none = _
    rw [slicePick_upto']; simp
  rw [e]; exact h
theorem p_cutRev {value slice : Expr} {a sl : Addr} {vs : List Value} {n : Nat} {Q : Value → Shared → Prop} (ha : fz a (listOf vs.toArray n) ∨ (a, listOf vs.toArray n) ∈ mu) (hsl : fz sl (slObj .none .none (.int (-1) t))) (hz : vs.length ≤ 1000000)
    (h : ∀ b s, Fs B L m ((b, listOf vs.reverse.toArray 0) :: mu) fz s → Q (.ref b) s)
    (hs : subscripted slice false (.ref a) (.ref sl) = operate [.ref a] (getItem (.ref a) (.ref sl)) := by with_unfolding_all rfl) :
    ∀ s, Fs B L m mu fz s → wpAny (model prog w) A (subscriptTail value slice (.ref a) (.ref sl)) Q E s := by
  refine p_cut ha rfl rfl hsl .none .none (.int (-1) t) (by simp) (by simpa using hz) ?_ hs
  have e : slicePick vs.toArray none none (some (-1)) = vs.reverse.toArray := by rw [krv_pick]
  rw [e]; exact h
theorem p_addL {a b : Addr} {vs ws : List Value} {n k : Nat} {Q : Value → Shared → Prop} (ha : fz a (listOf vs.toArray n) ∨ (a, listOf vs.toArray n) ∈ mu) (hb : fz b (listOf ws.toArray k) ∨ (b, listOf ws.toArray k) ∈ mu) (hz : vs.length + ws.length ≤ 1000000)
    (h : ∀ c s, Fs B L m ((c, listOf (vs ++ ws).toArray 0) :: mu) fz s → Q (.ref c) s) : ∀ s, Fs B L m mu fz s → wpAny (model prog w) A (binaryOp .Add (.ref a) (.ref b)) Q E s := fun s S => by
  refine P.add_list (ha.elim S.get S.own) (hb.elim S.get S.own) ?_ (by show _ ≤ 16777216; simp; omega)
  have e : vs.toArray ++ ws.toArray = (vs ++ ws).toArray := by simp
  rw [e]
  exact h _ _ (S.alloc (tk := s.toks) (listOf (vs ++ ws).toArray 0))
theorem p_item {value slice : Expr} {a : Addr} {o : Obj} {vs : List Value} {n : Nat} {k : Int} {v : Value} {Q : Value → Shared → Prop} (ha : fz a o ∨ (a, o) ∈ mu) (hc : o.cls = .type "list") (hd : o.data = .seq vs.toArray n) (h0 : 0 ≤ k) (hv : vs[k.toNat]? = some v) (hz : vs.length ≤ 1000000)
    (h : ∀ s, Fs B L m mu fz s → Q v s)
    (hs : subscripted slice false (.ref a) (.int k t) = operate [.ref a, .int k t] (getItem (.ref a) (.int k t)) := by with_unfolding_all rfl) :
    ∀ s, Fs B L m mu fz s → wpAny (model prog w) A (subscriptTail value slice (.ref a) (.int k t)) Q E s := fun s S => by
  have hl : s.heap.IsList a vs.toArray := ⟨o, ha.elim S.get S.own, hc, n, hd⟩
  have hlt := (List.getElem?_eq_some_iff.mp hv).1
  exact tail_any hl.typeIs list_getitem_lookup (wpAny_getItem_list hl h0 (by omega) (by simpa using hv) (h s S)) hs
theorem p_itemNeg {value slice : Expr} {a : Addr} {vs : List Value} {n : Nat} {k : Int} {v : Value} {Q : Value → Shared → Prop} (ha : fz a (listOf vs.toArray n) ∨ (a, listOf vs.toArray n) ∈ mu) (h0 : k < 0) (h1 : -(vs.length : Int) ≤ k) (hv : vs[(k + vs.length).toNat]? = some v) (hz : vs.length ≤ 1000000)
    (h : ∀ s, Fs B L m mu fz s → Q v s)
    (hs : subscripted slice false (.ref a) (.int k t) = operate [.ref a] (getItem (.ref a) (.int k t)) := by with_unfolding_all rfl) :
    ∀ s, Fs B L m mu fz s → wpAny (model prog w) A (subscriptTail value slice (.ref a) (.int k t)) Q E s := fun s S => by
  have hl : s.heap.IsList a vs.toArray := ⟨_, ha.elim S.get S.own, rfl, n, rfl⟩
  exact tail_any hl.typeIs list_getitem_lookup (wpAny_getItem_list_neg hl h0 (by simpa using h1) (by omega) (by simpa using hv) (h s S)) hs
theorem p_getItem {a : Addr} {vs : List Value} {n : Nat} {k : Int} {v : Value} {Q : Value → Shared → Prop} (ha : fz a (listOf vs.toArray n) ∨ (a, listOf vs.toArray n) ∈ mu) (h0 : 0 ≤ k) (hv : vs[k.toNat]? = some v) (hz : vs.length ≤ 1000000)
    (h : ∀ s, Fs B L m mu fz s → Q v s) : ∀ s, Fs B L m mu fz s → wpAny (model prog w) A (getItem (.ref a) (.int k t)) Q E s := fun s S => by
  have hl : s.heap.IsList a vs.toArray := ⟨_, ha.elim S.get S.own, rfl, n, rfl⟩
  have hlt := (List.getElem?_eq_some_iff.mp hv).1
  exact wpAny_getItem_list hl h0 (by omega) (by simpa using hv) (h s S)
theorem p_setItem {a : Addr} {vs : List Value} {n : Nat} {k : Int} {v : Value} {pre post : Led} {Q : Unit → Shared → Prop} (h0 : 0 ≤ k) (h1 : k < vs.length) (hz : vs.length ≤ 1000000)
    (h : ∀ n' s, Fs B L m (pre ++ (a, listOf (vs.set k.toNat v).toArray n') :: post) fz s → Q () s) : ∀ s, Fs B L m (pre ++ (a, listOf vs.toArray n) :: post) fz s → wpAny (model prog w) A (setItem (.ref a) (.int k t) v) Q E s := fun s S => by
  have ho : s.heap.get? a = some (listOf vs.toArray n) := S.own (by simp)
  unfold setItem
  refine wpAny_holding ?_
  have hl : s.heap.IsList a vs.toArray := ⟨_, ho, rfl, n, rfl⟩
  refine wpAny_bind (wpAny_sequenceKey hl.typeIs (by decide) ?_)
  refine wpAny_bind (wpAny_callSpecial?_slot (name := Str.ofString "__setitem__") hl.typeIs slot_list_setitem
    (wpAny_call_entry slot_list_setitem hl.typeIs entry_list_setitem ?_ (args_list_setitem _ _ _)))
  show wpAny _ _ (Builtin.List.listSubscript? (.int k t) >>= _) _ _ s
  refine wpAny_bind (wpAny_listSubscript_int (fitsIndex_of h0 (by omega)) ?_)
  obtain ⟨j, rfl⟩ := Int.eq_ofNat_of_zero_le h0
  have hj : j < vs.toArray.size := by simp; omega
  have hx' : vs.toArray[j]? = some vs.toArray[j] := Array.getElem?_eq_getElem hj
  show wpAny _ _ ((seqItemAt a j >>= fun r => pure (r.map (j, ·))) >>= _) _ _ s
  refine wpAny_bind (wpAny_bind (wpAny_seqItemAt ho rfl (wpAny_pure ?_)))
  rw [hx']
  show wpAny _ _ (setSeqItemAt a j v >>= _) _ _ s
  have hfin : (s.heap.update a (Obj.mapSeq (·.setIfInBounds j v))).get? a = some (listOf (vs.set j v).toArray n) := by
    rw [Heap.get?_update_self _ ho rfl]
    show some (Obj.mapSeq _ (listOf vs.toArray n)) = _
    simp only [Obj.mapSeq, Array.size_setIfInBounds, beq_self_eq_true, if_true]
    simp
  have fin := h n _ (S.put (tk := s.toks) hfin fun b q hb e => (Heap.get?_update_other _ _ (Ne.symm hb)).trans e)
  refine wpAny_bind (wpAny_setSeqItemAt ho rfl ?_)
  first
    | exact wpAny_bind (wpAny_pure (wpAny_pure ⟨.none, rfl, wpAny_pure fin⟩))
    | exact wpAny_pure ⟨.none, rfl, wpAny_pure fin⟩

-- bytes
theorem p_addB {x y : List UInt8} {Q : Value → Shared → Prop} (hz : x.length + y.length ≤ 1000000) (h : ∀ t' s, Fs B L m mu fz s → Q (.bytes (x ++ y).toArray t') s) :
    ∀ s, Fs B L m mu fz s → wpAny (model prog w) A (binaryOp .Add (.bytes x.toArray t) (.bytes y.toArray u)) Q E s := fun s S => by
  refine KBy.add_bytes (by simp; omega) fun t' k => ?_
  have e : x.toArray ++ y.toArray = (x ++ y).toArray := by simp
  rw [e]
  exact h _ _ S.toks
theorem p_cutB {value slice : Expr} {x : List UInt8} {sl : Addr} {vl vu : Value} {lo hi : Option Int} {Q : Value → Shared → Prop} (hsl : fz sl (slObj vl vu .none)) (pl : IsPart vl lo) (pu : IsPart vu hi) (hz : x.length ≤ 1000000)
    (h : ∀ t' s, Fs B L m mu fz s → Q (.bytes (KBy.picked x.toArray lo hi) t') s)
    (hs : subscripted slice false (.bytes x.toArray t) (.ref sl) = operate [.ref sl, .bytes x.toArray t] (getItem (.bytes x.toArray t) (.ref sl)) := by with_unfolding_all rfl)
    (ht : ∀ r, letTemporaryGo value (.bytes x.toArray t) r = pure () := by intro _; with_unfolding_all rfl) :
    ∀ s, Fs B L m mu fz s → wpAny (model prog w) A (subscriptTail value slice (.bytes x.toArray t) (.ref sl)) Q E s := fun s S =>
  tail_of_ItemOn ⟨"bytes", _, FB.slot_bytes_getitem.lookup, typeIs_bytes _ _ _, getItem_meets (typeIs_bytes _ _ _) (by decide) FB.slot_bytes_getitem FB.entry_bytes_getitem (FB.args_bytes_getitem_2 _ _) (KBc.meets_slice2 x.toArray t _ pl pu)
    ⟨⟨_, S.get hsl, rfl, rfl⟩, Nat.le_trans (KBc.size_picked_le _ lo hi) (by simp; show _ ≤ 16777216; omega), fun t' k => h _ _ S.toks⟩⟩ hs ht
theorem pickFrom (x : List UInt8) (j : Nat) : KBy.picked x.toArray (some (j : Int)) none = (x.drop j).toArray := by
  rw [KBc.picked_eq]
  show ((x.drop (clipAt x.toArray.size (j : Int))).take (x.toArray.size - clipAt x.toArray.size (j : Int))).toArray = _
  rw [clipAt_nat]
  congr 1
  have e : x.toArray.size = x.length := by simp
  rw [e]
  by_cases h : j ≤ x.length
  · rw [Nat.min_eq_left h, List.take_of_length_le (by simp)]
  · rw [Nat.min_eq_right (by omega), List.drop_of_length_le (Nat.le_refl _), List.drop_of_length_le (by omega)]; simp
theorem pickTo (x : List UInt8) (j : Nat) : KBy.picked x.toArray none (some (j : Int)) = (x.take j).toArray := by
  rw [KBc.picked_eq]
  show ((x.drop 0).take (clipAt x.toArray.size (j : Int) - 0)).toArray = _
  rw [clipAt_nat, List.drop_zero, Nat.sub_zero]
  congr 1
  have e : x.toArray.size = x.length := by simp
  rw [e]
  by_cases h : j ≤ x.length
  · rw [Nat.min_eq_left h]
  · rw [Nat.min_eq_right (by omega), List.take_of_length_le (Nat.le_refl _), List.take_of_length_le (by omega)]
theorem pickMid (x : List UInt8) (i j : Nat) (hi : i ≤ j) (hj : j ≤ x.length) : KBy.picked x.toArray (some (i : Int)) (some (j : Int)) = ((x.drop i).take (j - i)).toArray := by
  rw [KBc.picked_eq]
  show ((x.drop (clipAt x.toArray.size (i : Int))).take (clipAt x.toArray.size (j : Int) - clipAt x.toArray.size (i : Int))).toArray = _
  rw [clipAt_nat, clipAt_nat]
  have e : x.toArray.size = x.length := by simp
  rw [e, Nat.min_eq_left hj, Nat.min_eq_left (Nat.le_trans hi hj)]
-- others
theorem p_copyL {a : Addr} {vs : List Value} {n : Nat} {Q : Value → Shared → Prop} (ha : fz a (listOf vs.toArray n) ∨ (a, listOf vs.toArray n) ∈ mu) (hz : vs.length ≤ 1000000)
    (h : ∀ c k s, Fs B L m ((c, listOf vs.toArray k) :: mu) fz s → Q (.ref c) s) : ∀ s, Fs B L m mu fz s → wpAny (model prog w) A (call (.type "list") [.ref a]) Q E s := fun s S => by
  refine call_list_seq a (.inl rfl) (ha.elim S.get S.own) rfl rfl (fun h' c' hk hg => ?_) (by simp; show _ ≤ 16777216; omega)
  have K := S.grow (tk := s.toks) hk
  refine h _ c' _ ⟨K.gens, K.drawn, K.os, K.ns, K.keep, K.newL, K.le, K.fzs, ?_, ?_⟩
  · intro p hp
    rcases List.mem_cons.mp hp with rfl | hp
    · exact ⟨hg, Nat.ne_of_gt S.lt, fun q hq => absurd (Heap.lt_size (S.fzs _ _ hq).1) (Nat.lt_irrefl _), S.fresh⟩
    · exact K.mus p hp
  · exact (S.alloc (tk := s.toks) (listOf vs.toArray c')).nd
theorem p_truthL {a : Addr} {vs : List Value} {n : Nat} {Q : Bool → Shared → Prop} (ha : fz a (listOf vs.toArray n) ∨ (a, listOf vs.toArray n) ∈ mu) (hz : vs.length ≤ 1000000)
    (h : ∀ s, Fs B L m mu fz s → Q (decide (vs ≠ [])) s) : ∀ s, Fs B L m mu fz s → wpAny (model prog w) A (truthy (.ref a)) Q E s := fun s S => by
  refine wpAny_truthy_list ⟨_, ha.elim S.get S.own, rfl, n, rfl⟩ (by simp; omega) ?_
  have e : (!vs.toArray.isEmpty) = decide (vs ≠ []) := by cases vs <;> simp
  rw [e]
  exact h _ S.toks
theorem p_min {a b : Int} {Q : Value → Shared → Prop} (hh : A.handled = none) (h : ∀ tk s, Fs B L m mu fz s → Q (.int (if b < a then b else a) tk) s) :
    ∀ s, Fs B L m mu fz s → wpAny (model prog w) A (call (.builtin "min") [.int a t, .int b u]) Q E s := fun s S => min_two_ints hh fun h' tk hk => by
  by_cases hc : b < a
  · rw [if_pos hc]; have := h u _ (S.grow (tk := tk) hk); rwa [if_pos hc] at this
  · rw [if_neg hc]; have := h t _ (S.grow (tk := tk) hk); rwa [if_neg hc] at this
theorem p_max {a b : Int} {Q : Value → Shared → Prop} (hh : A.handled = none) (h : ∀ tk s, Fs B L m mu fz s → Q (.int (if b > a then b else a) tk) s) :
    ∀ s, Fs B L m mu fz s → wpAny (model prog w) A (call (.builtin "max") [.int a t, .int b u]) Q E s := fun s S => max_two_ints hh fun h' tk hk => by
  by_cases hc : b > a
  · rw [if_pos hc]; have := h u _ (S.grow (tk := tk) hk); rwa [if_pos hc] at this
  · rw [if_neg hc]; have := h t _ (S.grow (tk := tk) hk); rwa [if_neg hc] at this
theorem preSum_sum (ns : List Int) : ∀ k, k ≤ ns.length → preSum (fun i => ns.getD i 0) k = (ns.take k).sum := by
  intro k
  induction k with
  | zero => intro _; rfl
  | succ k ih =>
    intro hk
    have hk' : k < ns.length := by omega
    rw [preSum, ih (by omega), List.take_add_one, List.getElem?_eq_getElem hk', List.sum_append]
    simp [List.getD, hk']
theorem p_sum {a : Addr} {vs : List Value} {ns : List Int} {n : Nat} {Q : Value → Shared → Prop} (hh : A.handled = none) (ha : fz a (listOf vs.toArray n) ∨ (a, listOf vs.toArray n) ∈ mu) (hi : IntsAre vs ns) (h : ∀ tk s, Fs B L m mu fz s → Q (.int ns.sum tk) s) :
    ∀ s, Fs B L m mu fz s → wpAny (model prog w) A (call (.builtin "sum") [.ref a]) Q E s := fun s S => by
  have ho := ha.elim S.get S.own
  have hls : s.heap.IsList a vs.toArray := ⟨_, ho, rfl, n, rfl⟩
  have hne : a ≠ s.heap.objs.size := Nat.ne_of_lt (Heap.lt_size ho)
  refine call_sum_walkG (wpAny_pyIter_list hls ?_)
  refine ⟨s.heap.objs.size, [s.heap.objs.size, a], [s.heap.objs.size], vs.toArray.size, _, _, fun i => ns.getD i 0, rfl, Walks.list (A := A.in1) hh s.heap.objs.size a hne vs.toArray, ⟨⟨_, Heap.get?_push_size _ rfl, rfl, rfl⟩, hls.push _⟩, ?_, ?_, ?_⟩
  · intro b hb
    rw [Heap.size_push]
    simp at hb
    rcases hb with rfl | rfl
    · exact Nat.lt_succ_self _
    · exact Nat.lt_succ_of_lt (Heap.lt_size ho)
  · intro i v hv
    have hiv : vs[i]? = some v := by simpa using hv
    have hlt := (List.getElem?_eq_some_iff.mp hiv).1
    have hlt2 : i < ns.length := by rw [← hi.length]; exact hlt
    obtain ⟨tk, e⟩ := hi.get i ns[i] (List.getElem?_eq_getElem hlt2)
    rw [hiv] at e
    refine ⟨tk, ?_⟩
    rw [Option.some.inj e]
    simp [List.getD, hlt2]
  · intro h' tk t' hk
    have e : preSum (fun i => ns.getD i 0) vs.toArray.size = ns.sum := by
      rw [show vs.toArray.size = ns.length by simp [hi.length], preSum_sum _ _ (Nat.le_refl _), List.take_length]
    rw [e]
    have S1 := S.alloc (tk := s.toks) (liObj a)
    exact h t' _ (S1.drop.but (wr := [s.heap.objs.size]) (tk := tk) hk S.offNew)
end
end Mine
end
-- text MSort
section
open PySem PySem.W PyProof.Rows PySem.Calls PySem.SeqAt
set_option Elab.async false
set_option maxRecDepth 100000
set_option linter.unusedVariables false
namespace Mine
theorem by_lt_slot : Slot "bytes" (cmpInfo .Lt).2.1 "bytes.__lt__" :=
  .of (owner := "bytes") (n := "__lt__") (by rw [typeLookup_type, builtinLookup_eq_fast]; kernel_rfl) (by decide +kernel) (by decide +kernel) (by decide +kernel)
    (by first | exact .inl (by decide +kernel) | exact .inr (by decide +kernel)) (by rw [isSubtype_type]; kernel_rfl)
theorem by_lt_entry : entryFor table "bytes.__lt__" = some Builtin.«bytes.__lt__» := entryFor_of_tree (by kernel_rfl)
theorem by_lt_args (a b : Value) : argsOk "bytes.__lt__" ⟨[a, b], []⟩ := by unfold argsOk; kernel_rfl
noncomputable abbrev bn (l : List UInt8) : List Nat := l.map UInt8.toNat
theorem order_lt : ∀ a b : List UInt8, (Builtin.Bytes.order a b == .lt) = decide (bn a < bn b)
  | [], [] => by simp [Builtin.Bytes.order]
  | [], _ :: _ => by simp [Builtin.Bytes.order]
  | _ :: _, [] => by simp [Builtin.Bytes.order]
  | x :: a, y :: b => by
    simp only [Builtin.Bytes.order, bn, List.map_cons]
    by_cases h1 : x < y
    · have : x.toNat < y.toNat := h1
      simp [h1, this, List.cons_lt_cons_iff]
    · by_cases h2 : x > y
      · have h2' : y.toNat < x.toNat := h2
        have h3 : ¬ x.toNat < y.toNat := by omega
        have h4 : x.toNat ≠ y.toNat := by omega
        simp [h1, h2, List.cons_lt_cons_iff, h3, h4]
      · have e : x = y := UInt8.le_antisymm (UInt8.not_lt.mp h2) (UInt8.not_lt.mp h1)
        subst e
        have := order_lt a b
        simp [List.cons_lt_cons_iff, this]
theorem gives_lt (b c : Array UInt8) (t u : Tok) : Gives (Builtin.«bytes.__lt__» ⟨[.bytes b t, .bytes c u], []⟩) (.val (.bool (decide (bn b.toList < bn c.toList)))) := by
  refine .of_wp fun M A E s Q hq => ?_
  show wpAny M A (isInstance (.bytes c u) (.type "bytes") >>= fun r => _) _ E s
  refine wpAny_bind (wpAny_isInstance (typeIs_bytes s c u) F.sub_bytes_bytes ?_)
  exact wpAny_pure ⟨_, rfl, by rw [← order_lt] at hq; exact hq⟩
noncomputable abbrev byKind : KeyKind where
  α := List Nat
  blt a b := decide (a < b)
  irrefl a := by simpa using List.lt_irrefl a
  trans a b c h1 h2 := by simp only [decide_eq_true_eq] at *; exact List.lt_trans h1 h2
  negTrans a b c h := by
    simp only [decide_eq_true_eq] at *
    by_cases hab : a < b
    · exact .inl hab
    · exact .inr (List.lt_of_le_of_lt (List.not_lt.mp hab) h)
  total a b h1 h2 := by simp only [decide_eq_false_iff_not] at *; exact List.le_antisymm (List.not_lt.mp h2) (List.not_lt.mp h1)
  keyOf v := match v with | .bytes x _ => some (bn x.toList) | _ => none
  dflt := []
theorem byKind_oneLt : byKind.OneLt := by
  intro prog w A E s x y a b Q ha hb h
  cases x <;> simp only [byKind, reduceCtorEq, Option.some.injEq] at ha
  cases y <;> simp only [byKind, reduceCtorEq, Option.some.injEq] at hb
  cases ha; cases hb
  rename_i x t y u
  rw [oneLt'_eq]
  simp only [if_true]
  refine wpAny_bind (wpAny_cRoomFor_byValue rfl ?_)
  refine wpAny_bind (wpAny_callSpecialIfBound?_slot (typeIs_bytes s x t) by_lt_slot (call_gives by_lt_slot (typeIs_bytes s x t) by_lt_entry (by_lt_args _ _) (gives_lt x y t u) ?_))
  exact wpAny_truthy_bool h
section
variable {f : Fz}
theorem Al.allB : ∀ {vs : List Value} {xs : List (List UInt8)}, Al (TBy.R f) vs xs → ∀ v ∈ vs, ∃ x t, v = .bytes x t
  | _, _, .cons r h, v, hv => by
    rcases List.mem_cons.mp hv with rfl | hv
    · obtain ⟨t, rfl⟩ := r; exact ⟨_, t, rfl⟩
    · exact h.allB v hv
noncomputable def byOf : Value → List UInt8
  | .bytes x _ => x.toList
  | _ => []
theorem Al.byOf_map : ∀ {vs : List Value} {xs : List (List UInt8)}, Al (TBy.R f) vs xs → vs.map byOf = xs
  | _, _, .nil => rfl
  | _, _, .cons r h => by obtain ⟨t, rfl⟩ := r; rw [List.map_cons, h.byOf_map]; simp [byOf]
theorem alB_of : ∀ (vs : List Value), (∀ v ∈ vs, ∃ x t, v = .bytes x t) → Al (TBy.R f) vs (vs.map byOf)
  | [], _ => .nil
  | v :: vs, h => by
    obtain ⟨x, t, rfl⟩ := h v (List.mem_cons_self ..)
    exact .cons ⟨t, by simp [byOf]⟩ (alB_of vs fun u hu => h u (List.mem_cons_of_mem _ hu))
theorem mapM_firstB : ∀ (vs : List Value), (∀ v ∈ vs, ∃ x t, v = .bytes x t) → vs.mapM firstOfTuple' = pure (vs.map fun _ => none)
  | [], _ => by simp
  | v :: vs, h => by
    obtain ⟨x, t, rfl⟩ := h v (List.mem_cons_self ..)
    have e : firstOfTuple' (.bytes x t) = pure none := rfl
    rw [List.mapM_cons, e, mapM_firstB vs fun u hu => h u (List.mem_cons_of_mem _ hu)]; simp
theorem mapM_typeB : ∀ (vs : List Value), (∀ v ∈ vs, ∃ x t, v = .bytes x t) → vs.mapM typeOf = pure (vs.map fun _ => Value.type "bytes")
  | [], _ => by simp
  | v :: vs, h => by
    obtain ⟨x, t, rfl⟩ := h v (List.mem_cons_self ..)
    rw [List.mapM_cons, mapM_typeB vs fun u hu => h u (List.mem_cons_of_mem _ hu)]
    show (pure (Value.type "bytes") >>= fun b => pure _ >>= fun bs => pure (b :: bs)) = _
    simp
theorem keyKind_B {v₁ v₂ : Value} {vs : List Value} (h : ∀ v ∈ v₁ :: v₂ :: vs, ∃ x t, v = .bytes x t) : keyKind' (v₁ :: v₂ :: vs).toArray = pure oneType' := by
  rw [keyKind'_eq, List.mapM_toArray, mapM_firstB _ h]
  simp only [map_pure, pure_bind]
  rw [if_neg (by simp), if_neg (by simp)]
  rw [oneTypeOnly'_eq, List.mapM_toArray, mapM_typeB _ h]
  simp only [map_pure, pure_bind]
  have hall : ((List.map (fun _ => Value.type "bytes") (v₁ :: v₂ :: vs)).toArray.all fun x => x == Value.type "bytes") = true := by
    simp only [List.all_toArray, List.all_map, List.all_eq_true]
    intro _ _
    rfl
  have h0 : (List.map (fun _ => Value.type "bytes") (v₁ :: v₂ :: vs)).toArray[0]? = some (Value.type "bytes") := by simp
  rw [h0]
  simp only [hall, if_true, pure_bind, Option.isSome_some]
theorem keysB {vs : List Value} (h : ∀ v ∈ vs, ∃ x t, v = .bytes x t) : KeysOf byKind (pairsOf vs) := by
  intro p hp
  rw [pairsOf_toList] at hp
  obtain ⟨x, t, e⟩ := h _ (mem_zip_self hp).2
  exact ⟨bn x.toList, by rw [e]⟩
theorem KK_by {xs : Array Keyed} {i : Nat} (hi : i < xs.size) {x : Array UInt8} {t : Tok} {q : Value} (hx : xs[i] = (.bytes x t, q)) : KK byKind xs i = bn x.toList := by
  unfold KK; rw [getElem?_pos xs i hi, hx]; rfl
noncomputable def SortedB (ys : List (List UInt8)) : Prop := ys.Pairwise fun a b => ¬ bn b < bn a
theorem sorted_outB {vs : List Value} {ys : List (List UInt8)} (hv : Al (TBy.R f) vs ys) {xs : Array Keyed} (hp : xs.Perm (pairsOf vs)) (hs : SortedToK byKind xs (pairsOf vs).size) :
    ∃ ys', Al (TBy.R f) (xs.map (·.2)).toList ys' ∧ ys'.Perm ys ∧ SortedB ys' := by
  have hl : xs.toList.Perm (vs.zip vs) := by rw [← pairsOf_toList]; exact Array.perm_iff_toList_perm.mp hp
  have hmem : ∀ p, p ∈ xs.toList → p.1 = p.2 ∧ p.1 ∈ vs := fun p hp' => mem_zip_self (hl.mem_iff.mp hp')
  refine ⟨xs.toList.map (fun p => byOf p.1), ?_, ?_, ?_⟩
  · have e : (xs.map (·.2)).toList = xs.toList.map (·.1) := by
      rw [Array.toList_map]; exact List.map_congr_left fun p hp' => (hmem p hp').1.symm
    rw [e]
    have h1 := alB_of (f := f) (xs.toList.map (·.1)) (by
      intro v hv'
      obtain ⟨p, hp', rfl⟩ := List.mem_map.mp hv'
      exact hv.allB _ (hmem p hp').2)
    rwa [List.map_map] at h1
  · have h1 := hl.map (fun p => byOf p.1)
    have e2 : (vs.zip vs).map (fun p => byOf p.1) = ys := by
      have : (vs.zip vs).map (fun p => byOf p.1) = ((vs.zip vs).map Prod.fst).map byOf := by rw [List.map_map]; rfl
      rw [this, List.map_fst_zip (Nat.le_refl _), hv.byOf_map]
    rwa [e2] at h1
  · unfold SortedB
    rw [List.pairwise_iff_getElem]
    intro i j hi hj hij
    have hi' : i < xs.size := by simpa using hi
    have hj' : j < xs.size := by simpa using hj
    have h1 := hs i j (Nat.le_of_lt hij) (by rw [← hp.size_eq]; exact hj')
    obtain ⟨x, t, ex⟩ := hv.allB _ (hmem xs[i] (by simp)).2
    obtain ⟨y, u, ey⟩ := hv.allB _ (hmem xs[j] (by simp)).2
    rw [KK_by hi' (x := x) (t := t) (q := xs[i].2) (Prod.ext ex rfl), KK_by hj' (x := y) (t := u) (q := xs[j].2) (Prod.ext ey rfl)] at h1
    change decide (bn y.toList < bn x.toList) = false at h1
    simp only [List.getElem_map, Array.getElem_toList]
    rw [show byOf xs[i].1 = x.toList by rw [ex]; rfl, show byOf xs[j].1 = y.toList by rw [ey]; rfl]
    simpa using h1
end
theorem bn_inj {a b : List UInt8} (h : bn a = bn b) : a = b := by
  induction a generalizing b with
  | nil => cases b with | nil => rfl | cons y b => cases h
  | cons x a ih =>
    cases b with
    | nil => cases h
    | cons y b =>
      simp only [bn, List.map_cons, List.cons.injEq] at h
      rw [UInt8.toNat_inj.mp h.1, ih h.2]
theorem sortedB_unique {xs ys : List (List UInt8)} (h : xs.Perm ys) (h1 : SortedB xs) (h2 : SortedB ys) : xs = ys := by
  induction xs generalizing ys with
  | nil => exact (List.nil_perm.mp h).symm
  | cons x xs ih =>
    cases ys with
    | nil => exact absurd h.length_eq (by simp)
    | cons y ys =>
      have h1' := List.pairwise_cons.mp h1
      have h2' := List.pairwise_cons.mp h2
      have e : x = y := by
        by_cases hxy : x = y
        · exact hxy
        · have hx : x ∈ ys := by
            rcases List.mem_cons.mp (h.mem_iff.mp (List.mem_cons_self ..)) with e | e
            · exact absurd e hxy
            · exact e
          have hy : y ∈ xs := by
            rcases List.mem_cons.mp (h.mem_iff.mpr (List.mem_cons_self ..)) with e | e
            · exact absurd e.symm hxy
            · exact e
          exact bn_inj (List.le_antisymm (List.not_lt.mp (h1'.1 y hy)) (List.not_lt.mp (h2'.1 x hx)))
      subst e
      rw [ih ((List.perm_cons x).mp h) h1'.2 h2'.2]
section
variable {prog : Program} {w : World} {A : Around} {E : Value → Shared → Prop} {env : Env} {B : Bs} {L : Addr} {m : Str → Option Value} {mu : Led} {fz fz' : Fz} {mg mb : Str → Option Value} {t u : Tok}
theorem Fs.newAt {s : Shared} (S : Fs B L m mu fz s) {h' : Heap} {tk : Nat} {c : Addr} {o : Obj} (hk : ∀ b o, s.heap.get? b = some o → h'.get? b = some o) (hc : s.heap.objs.size ≤ c) (ho : h'.get? c = some o) :
    Fs B L m ((c, o) :: mu) fz { s with heap := h', toks := tk } := by
  have K := S.grow (tk := tk) hk
  have ne : ∀ {b q}, s.heap.get? b = some q → b ≠ c := fun e => Nat.ne_of_lt (Nat.lt_of_lt_of_le (Heap.lt_size e) hc)
  refine ⟨K.gens, K.drawn, K.os, K.ns, K.keep, K.newL, K.le, K.fzs, ?_, ?_⟩
  · intro p hp
    rcases List.mem_cons.mp hp with rfl | hp
    · refine ⟨ho, ?_, fun q hq => ne (S.get hq) rfl, ?_⟩
      · obtain ⟨x, _, _, hx, _⟩ := S.ns
        exact (ne hx).symm
      · cases e : B.s0.heap.get? c with
        | none => rfl
        | some q => obtain ⟨o', h'⟩ := S.keep.any e; exact absurd rfl (ne h')
    · exact K.mus p hp
  · rw [List.map_cons, List.nodup_cons]
    refine ⟨fun hm => ?_, S.nd⟩
    obtain ⟨p, hp, e⟩ := List.mem_map.mp hm
    exact ne (S.mus p hp).1 e
theorem p_sorted {a : Addr} {vs : List Value} {ys : List (List UInt8)} {n : Nat} {Q : Value → Shared → Prop} (ha : fz a (listOf vs.toArray n) ∨ (a, listOf vs.toArray n) ∈ mu) (hv : Al (TBy.R fz) vs ys) (h64 : ys.length < 64)
    (h : ∀ c ws zs k s, Al (TBy.R fz) ws zs → zs.Perm ys → SortedB zs → Fs B L m ((c, listOf ws.toArray k) :: mu) fz s → Q (.ref c) s) :
    ∀ s, Fs B L m mu fz s → wpAny (model prog w) A (call (.builtin "sorted") [.ref a]) Q E s := fun s S => by
  refine sortedK byKind_oneLt ⟨_, ha.elim S.get S.own, rfl, n, rfl⟩ (keysB hv.allB) (fun v₁ v₂ rest e => keyKind_B (by rw [← e]; exact hv.allB)) (by rw [hv.length]; exact h64) fun st' hp hs => ?_
  obtain ⟨zs, h1, h2, h3⟩ := sorted_outB hv hp hs
  obtain ⟨e, he⟩ := sortedAll_at s.heap vs ((arrOf st').map (·.2))
  refine h (s.heap.objs.size + 1) _ zs e _ h1 h2 h3 (S.newAt (tk := s.toks) (fun b o => sortedAll_old) (Nat.le_succ _) ?_)
  rw [Array.toArray_toList]; exact he
end
end Mine
end
-- text MOp3
section
open PySem PySem.W PyProof.Rows PySem.Calls PySem.SeqAt
open AutoSeq1 (wpAny_loadPart')
open MeetsSeq
set_option Elab.async false
set_option maxRecDepth 100000
set_option linter.unusedVariables false
namespace Mine
-- list.remove, its compares in the state at hand
theorem rm_loop (l : Addr) (items : Array Value) (n : Nat) (x : Value) (e : Value → Bool) (j : Nat) (hj : j < items.size) (hit : e items[j] = true) (k : Nat) (hs1 : items.size ≤ sizeLine) :
    ∀ i : Nat, j - i = k → i ≤ j → (∀ m (hm : m < items.size), i ≤ m → m < j → e items[m] = false) → Meets (Builtin.«list.remove.loop» ⟨[.ref l, x, rawInt i], []⟩)
      (fun A R s => s.heap.get? l = some { cls := .type "list", dict := none, data := .seq items n, slots := #[] } ∧ (∀ y, y ∈ items → EqAt A.in1 s y x (e y)) ∧ R (.ok (.ret .none)) { s with heap := s.heap.update l (Obj.mapSeq fun xs => xs.eraseIdxIfInBounds j) }) := by
  induction k with
  | zero =>
    intro i hk hij hno prog w A R s h
    obtain ⟨hp, g, d, tk, os⟩ := s; obtain ⟨hl, he, h⟩ := h
    have hij' : i = j := by omega
    subst hij'
    wp_walk using wpAny_loadPart' hl
    have hi : items[((i : Nat) : Int).toNat]? = some items[i] := by simp [hj]
    rw [hi]
    refine wpAny_bind (he _ (Array.getElem_mem hj) prog w _ _ ?_)
    rw [hit]
    have hz' : (items.eraseIdxIfInBounds i).size ≤ sizeLine + 1 := Nat.le_trans (size_erased items _) (Nat.le_succ_of_le hs1)
    wp_walk using (wpAny_updateSeq hl rfl (hz := hs1) (_hz' := hz')), wpAny_loadPart' hl
    simpa using h
  | succ k ih =>
    intro i hk hij hno prog w A R s h
    obtain ⟨hp, g, d, tk, os⟩ := s; obtain ⟨hl, he, h⟩ := h
    have hlt : i < items.size := by omega
    wp_walk using wpAny_loadPart' hl
    have hi : items[((i : Nat) : Int).toNat]? = some items[i] := by simp [hlt]
    have hc : ((i : Int) + 1) = ((i + 1 : Nat) : Int) := by push_cast; rfl
    rw [hi]
    refine wpAny_bind (he _ (Array.getElem_mem hlt) prog w _ _ ?_)
    rw [hno i hlt (Nat.le_refl _) (by omega)]
    wp_walk
    rw [hc]
    exact ⟨plainId_quiet plain_remove_loop _, codeAny_builtin entry_remove_loop (by
      rw [Around.under_plainId plain_remove_loop _]
      exact ih (i + 1) (by omega) (by omega) (fun m hm h1 h2 => hno m hm (by omega) h2) prog w A R _ ⟨hl, he, h⟩)⟩
theorem rm_hit (l : Addr) (items : Array Value) (n : Nat) (x : Value) (e : Value → Bool) (j : Nat) (hj : j < items.size) (hit : e items[j] = true) (hno : ∀ m (hm : m < items.size), m < j → e items[m] = false) (hs1 : items.size ≤ sizeLine) :
    Meets (Builtin.«list.remove» ⟨[.ref l, x], []⟩)
      (fun A R s => s.heap.get? l = some { cls := .type "list", dict := none, data := .seq items n, slots := #[] } ∧ (∀ y, y ∈ items → EqAt A.in1 s y x (e y)) ∧ R (.ok (.ret .none)) { s with heap := s.heap.update l (Obj.mapSeq fun xs => xs.eraseIdxIfInBounds j) }) := by
  intro prog w A R s h
  obtain ⟨hp, g, d, tk, os⟩ := s; obtain ⟨hl, he, h⟩ := h
  wp_walk using wpAny_loadPart' hl
  exact ⟨plainId_quiet plain_remove_loop _, codeAny_builtin entry_remove_loop (by
    rw [Around.under_plainId plain_remove_loop _]
    exact rm_loop l items n x e j hj hit _ hs1 0 rfl (Nat.zero_le _) (fun m hm _ h2 => hno m hm h2) prog w A R _ ⟨hl, he, h⟩)⟩
theorem rm_loop0 (l : Addr) (items : Array Value) (n : Nat) (x : Value) (e : Value → Bool) (hno : ∀ m (hm : m < items.size), e items[m] = false) (k : Nat) :
    ∀ i : Nat, items.size - i = k → Meets (Builtin.«list.remove.loop» ⟨[.ref l, x, rawInt i], []⟩)
      (fun A R s => s.heap.get? l = some { cls := .type "list", dict := none, data := .seq items n, slots := #[] } ∧ (∀ y, y ∈ items → EqAt A.in1 s y x (e y)) ∧ raisesNew "ValueError" A R s) := by
  induction k with
  | zero =>
    intro i hk prog w A R s h
    obtain ⟨hp, g, d, tk, os⟩ := s; obtain ⟨hl, he, h⟩ := h
    wp_walk using wpAny_loadPart' hl
    have hi : items[((i : Nat) : Int).toNat]? = none := by simp; omega
    rw [hi]
    wp_walk
    exact_raiseError plainExc_ValueError h.1 h.2
  | succ k ih =>
    intro i hk prog w A R s h
    obtain ⟨hp, g, d, tk, os⟩ := s; obtain ⟨hl, he, h⟩ := h
    have hlt : i < items.size := by omega
    wp_walk using wpAny_loadPart' hl
    have hi : items[((i : Nat) : Int).toNat]? = some items[i] := by simp [hlt]
    have hc : ((i : Int) + 1) = ((i + 1 : Nat) : Int) := by push_cast; rfl
    rw [hi]
    refine wpAny_bind (he _ (Array.getElem_mem hlt) prog w _ _ ?_)
    rw [hno i hlt]
    wp_walk
    rw [hc]
    exact ⟨plainId_quiet plain_remove_loop _, codeAny_builtin entry_remove_loop (by
      rw [Around.under_plainId plain_remove_loop _]
      exact ih (i + 1) (by omega) prog w A R _ ⟨hl, he, h⟩)⟩
theorem rm_miss (l : Addr) (items : Array Value) (n : Nat) (x : Value) (e : Value → Bool) (hno : ∀ m (hm : m < items.size), e items[m] = false) :
    Meets (Builtin.«list.remove» ⟨[.ref l, x], []⟩)
      (fun A R s => s.heap.get? l = some { cls := .type "list", dict := none, data := .seq items n, slots := #[] } ∧ (∀ y, y ∈ items → EqAt A.in1 s y x (e y)) ∧ raisesNew "ValueError" A R s) := by
  intro prog w A R s h
  obtain ⟨hp, g, d, tk, os⟩ := s; obtain ⟨hl, he, h⟩ := h
  wp_walk using wpAny_loadPart' hl
  exact ⟨plainId_quiet plain_remove_loop _, codeAny_builtin entry_remove_loop (by
    rw [Around.under_plainId plain_remove_loop _]
    exact rm_loop0 l items n x e hno _ 0 rfl prog w A R _ ⟨hl, he, h⟩)⟩

section
variable {prog : Program} {w : World} {A : Around} {E : Value → Shared → Prop} {env : Env} {B : Bs} {L : Addr} {m : Str → Option Value} {mu : Led} {fz fz' : Fz} {mg mb : Str → Option Value} {t u : Tok}
-- methods
theorem e_meth1 {o e : Expr} {name : Str} {apos pos : Pos} {Q : Value → Shared → Prop} (h : ∀ s, Fs B L m mu fz s → wpAny (model prog w) A (eval o env) (fun ov s₁ => MethodOnS prog w A E name ov pos [(false, eval e env)] Q s₁) E s)
    (hbase : attributeBase o name env (eval o env) = eval o env := by rfl) (hs : starEach [e] env = [(false, eval e env)] := by rfl) (hline : (apos.endLine == pos.line) = true := by rfl) :
    ∀ s, Fs B L m mu fz s → wpAny (model prog w) A (eval (.Call (.Attribute o name apos) [e] [] pos) env) Q E s := fun s S => Call_method1 hbase hs hline (h s S)
theorem e_meth0 {o : Expr} {name : Str} {apos pos : Pos} {Q : Value → Shared → Prop} (h : ∀ s, Fs B L m mu fz s → wpAny (model prog w) A (eval o env) (fun ov s₁ => MethodOnS prog w A E name ov pos [] Q s₁) E s)
    (hbase : attributeBase o name env (eval o env) = eval o env := by rfl) (hline : (apos.endLine == pos.line) = true := by rfl) :
    ∀ s, Fs B L m mu fz s → wpAny (model prog w) A (eval (.Call (.Attribute o name apos) [] [] pos) env) Q E s := fun s S => Call_method0 hbase hline (h s S)
theorem m_list1 {l : Addr} {its : Array Value} {n : Nat} {name : Str} {id : String} {pos : Pos} {x : Sem Value} {Q : Value → Shared → Prop} (slot : Slot "list" name id) (ty : typeOf (.builtin id) = pure (.type "method_descriptor"))
    (ho : fz l (listOf its n) ∨ (l, listOf its n) ∈ mu) (h : ∀ s, Fs B L m mu fz s → wpAny (model prog w) A x (fun v s₁ => wpAny (model prog w) A (call (.builtin id) [.ref l, v]) Q E s₁) E s) :
    ∀ s, Fs B L m mu fz s → MethodOnS prog w A E name (.ref l) pos [(false, x)] Q s := fun s S => by
  have e := ho.elim S.get S.own
  refine ⟨"list", id, F.plainAttrs_list, slot, ty, ⟨_, e, rfl⟩, fun a ea => ?_, ?_⟩
  · cases ea; exact ⟨_, e, rfl⟩
  · exact Calls.callWith_builtin rfl (Calls.evalArgs_plain (Calls.spliced_cons (wpAny_mono (h s S) (fun _ _ h₁ => Calls.spliced_nil h₁) fun _ _ e => e)))
theorem p_pop {l : Addr} {vs : List Value} {v : Value} {n : Nat} {name : Str} {pos : Pos} {pre post : Led} {Q : Value → Shared → Prop} (hz : vs.length ≤ 1000000)
    (h : ∀ k s, Fs B L m (pre ++ (l, listOf vs.toArray k) :: post) fz s → Q v s) :
    ∀ s, Fs B L m (pre ++ (l, listOf (vs ++ [v]).toArray n) :: post) fz s → MethodOnS prog w A E "pop" (.ref l) pos [] Q s := fun s S => by
  have e : s.heap.get? l = some (listOf (vs ++ [v]).toArray n) := S.own (by simp)
  have hsz : ((vs ++ [v]).toArray).size - 1 = vs.length := by simp
  refine ⟨"list", "list.pop", F.plainAttrs_list, F.slot_list_pop, F.type_list_pop, ⟨_, e, rfl⟩, fun a ea => ?_, ?_⟩
  · cases ea; exact ⟨_, e, rfl⟩
  · refine P.pop_list (y := v) e (by rw [hsz]; simp) ?_ (by simp; show _ ≤ 16777216; omega)
    rw [hsz]
    refine h (n + 1) _ (S.put (tk := s.toks) ?_ fun b q hb e => (Heap.get?_update_other _ _ (Ne.symm hb)).trans e)
    rw [Heap.get?_update_self _ e rfl]
    show some (Obj.mapSeq _ (listOf (vs ++ [v]).toArray n)) = _
    have e2 : ((vs ++ [v]).toArray).eraseIdxIfInBounds vs.length = vs.toArray := by
      simp [Array.eraseIdxIfInBounds, List.eraseIdx_append_of_length_le]
    simp only [Obj.mapSeq, e2]
    rw [if_neg (by simp)]
/-- remove, of what is there -/
theorem p_remove {α : Type} [DecidableEq α] (t : Ty α) {l : Addr} {vs : List Value} {xs : List α} {v : Value} {x : α} {n j k0 : Nat} {pre post : Led} {Q : Value → Shared → Prop} (hA : Rm A k0) (hdp : t.dep ≤ 90) (hz : vs.length ≤ 1000000)
    (hv : Al (t.R fz) vs xs) (hx : t.R fz v x) (hj : j < xs.length) (hit : xs[j] = x) (hno : ∀ i (hi : i < xs.length), i < j → xs[i] ≠ x)
    (h : ∀ k s, Fs B L m (pre ++ (l, listOf (vs.eraseIdx j).toArray k) :: post) fz s → Q .none s) :
    ∀ s, Fs B L m (pre ++ (l, listOf vs.toArray n) :: post) fz s → wpAny (model prog w) A (call (.builtin "list.remove") [.ref l, v]) Q E s := fun s S => by
  have e : s.heap.get? l = some (listOf vs.toArray n) := S.own (by simp)
  have hjv : j < vs.toArray.size := by simpa [hv.length] using hj
  have val : ∀ i (h1 : i < vs.length) (h2 : i < xs.length), decide (valOf t x fz vs[i] = x) = decide (xs[i] = x) := fun i h1 h2 => by rw [valOf_eq S.fl (hv.get h1 h2)]
  refine call_meets PySem.F.slot_list_remove ⟨_, e, rfl⟩ PySem.F.entry_list_remove (PySem.F.args_list_remove_2 _ _) (rm_hit l vs.toArray n v (fun y => decide (valOf t x fz y = x)) j hjv ?_ ?_ ?_) ⟨e, hv.eqs (A := A.in1) S.fl hx (by have := hA.hu; show A.units + 1 + _ < _; unfold cLine; omega), ?_⟩
  · have := val j (by simpa using hjv) hj
    simp only [List.getElem_toArray]
    rw [this]; exact decide_eq_true hit
  · intro i hi hij
    have hi1 : i < vs.length := by simpa using hi
    have hi2 : i < xs.length := by rw [← hv.length]; exact hi1
    have := val i hi1 hi2
    simp only [List.getElem_toArray]
    rw [this]; exact decide_eq_false (hno i hi2 hij)
  · simp; show _ ≤ 16777216; omega
  · refine h (n + 1) _ (S.put (tk := s.toks) ?_ fun b q hb e => (Heap.get?_update_other _ _ (Ne.symm hb)).trans e)
    rw [Heap.get?_update_self _ e rfl]
    show some (Obj.mapSeq _ (listOf vs.toArray n)) = _
    have hjv' : j < vs.length := by simpa using hjv
    have e2 : vs.toArray.eraseIdxIfInBounds j = (vs.eraseIdx j).toArray := by simp [Array.eraseIdxIfInBounds, hjv']
    simp only [Obj.mapSeq, e2]
    rw [if_neg (by simp [List.length_eraseIdx, hjv']; omega)]
theorem p_removeNone {α : Type} [DecidableEq α] (t : Ty α) {l : Addr} {vs : List Value} {xs : List α} {v : Value} {x : α} {n k0 : Nat} {Q : Value → Shared → Prop} (hA : Rm A k0) (hdp : t.dep ≤ 90)
    (ho : (l, listOf vs.toArray n) ∈ mu) (hv : Al (t.R fz) vs xs) (hx : t.R fz v x) (hno : x ∉ xs)
    (h : ∀ e h' tk s, Fs B L m mu fz s → Heap.NewExc s.heap h' e "ValueError" → E (.ref e) { s with heap := h', toks := tk }) :
    ∀ s, Fs B L m mu fz s → wpAny (model prog w) A (call (.builtin "list.remove") [.ref l, v]) Q E s := fun s S => by
  have e : s.heap.get? l = some (listOf vs.toArray n) := S.own ho
  refine call_meets PySem.F.slot_list_remove ⟨_, e, rfl⟩ PySem.F.entry_list_remove (PySem.F.args_list_remove_2 _ _) (rm_miss l vs.toArray n v (fun y => decide (valOf t x fz y = x)) ?_) ⟨e, hv.eqs (A := A.in1) S.fl hx (by have := hA.hu; show A.units + 1 + _ < _; unfold cLine; omega), ?_⟩
  · intro i hi
    have hi1 : i < vs.length := by simpa using hi
    have hi2 : i < xs.length := by rw [← hv.length]; exact hi1
    simp only [List.getElem_toArray]
    refine decide_eq_false fun q => hno ?_
    rw [valOf_eq S.fl (hv.get hi1 hi2)] at q
    exact q ▸ List.getElem_mem hi2
  · exact ⟨hA.hh, fun h' tk e' hx' => h e' h' tk s S hx'⟩

-- an exception caught in the frame where it came up
/-- the frames on the stack -/
noncomputable def FrOk (A : Around) (fs : List Addr) : Prop := ∃ l, A.frames = some l ∧ ∀ env ∈ l, env.scope.kind = .function ∧ ∃ f ∈ fs, env.frame = some f
theorem FrOk.deeper {A : Around} {fs : List Addr} {env : Env} {L : Addr} (h : FrOk A fs) (hk : env.scope.kind = .function) (hf : env.frame = some L) : FrOk (A.deeper env) (L :: fs) := by
  obtain ⟨l, hl, hr⟩ := h
  refine ⟨env :: l, Around.frames_deeper hl, fun e he => ?_⟩
  rcases List.mem_cons.mp he with rfl | he
  · exact ⟨hk, L, List.mem_cons_self, hf⟩
  · obtain ⟨h1, f, h2, h3⟩ := hr e he
    exact ⟨h1, f, List.mem_cons_of_mem _ h2, h3⟩
theorem FrOk.more {A : Around} {fs : List Addr} {C : Addr} (h : FrOk A fs) : FrOk A (C :: fs) := by
  obtain ⟨l, hl, hr⟩ := h
  exact ⟨l, hl, fun e he => let ⟨h1, f, h2, h3⟩ := hr e he; ⟨h1, f, List.mem_cons_of_mem _ h2, h3⟩⟩
/-- a heap in which only frames' slots and new things turned -/
noncomputable def Rd (fs : List Addr) (h h' : Heap) : Prop := ∀ b o, h.get? b = some o → (b ∉ fs → h'.get? b = some o) ∧ ∃ sl, h'.get? b = some { o with slots := sl }
theorem Rd.upd {fs : List Addr} {h h' : Heap} (r : Rd fs h h') {e : Addr} (he : h.get? e = none) (f : Obj → Obj) : Rd fs h (h'.update e f) := fun b o hb => by
  have hne : e ≠ b := fun x => by rw [x, hb] at he; cases he
  obtain ⟨h1, sl, h2⟩ := r b o hb
  exact ⟨fun hn => (Heap.get?_update_other _ _ hne).trans (h1 hn), sl, (Heap.get?_update_other _ _ hne).trans h2⟩
theorem Rd.push {fs : List Addr} {h h' : Heap} (r : Rd fs h h') (o' : Obj) : Rd fs h (h'.push o') := fun b o hb => by
  obtain ⟨h1, sl, h2⟩ := r b o hb
  exact ⟨fun hn => Heap.get?_push_of_some _ (h1 hn), sl, Heap.get?_push_of_some _ h2⟩
theorem Fs.rd {s : Shared} (S : Fs B L m mu fz s) {h' : Heap} {tk : Nat} (r : Rd (L :: B.fs) s.heap h') : Fs B L m mu fz { s with heap := h', toks := tk } := by
  have ex : ∀ {b o}, s.heap.get? b = some o → b ≠ L → b ∉ B.fs → h'.get? b = some o := fun e h1 h2 => (r _ _ e).1 fun x => by
    rcases List.mem_cons.mp x with x | x
    · exact h1 x
    · exact h2 x
  have fzfs : ∀ {a o}, fz a o → a ∉ B.fs := fun {a o} e hb => by
    rcases (S.fzs a o e).2.2 with q | q
    · exact S.keep.f0fs a o q hb
    · exact S.keep.none_fs q hb
  refine ⟨S.gens, S.drawn, S.os, ?_, ⟨fun b o e hb => ?_, fun b o e hb => ?_, S.keep.fsOk, S.keep.f0fs⟩, S.newL, S.le, fun a o e => ⟨ex (S.get e) (S.fzs a o e).2.1 (fzfs e), (S.fzs a o e).2⟩, fun p hp => ?_, S.nd⟩
  · obtain ⟨o, es, ep, ho, hd, rr⟩ := S.ns
    obtain ⟨_, sl, h2⟩ := r _ _ ho
    exact ⟨_, es, ep, h2, hd, rr⟩
  · exact ex (S.keep.ex b o e hb) (fun x => by rw [x, S.newL] at e; cases e) hb
  · obtain ⟨sl, h1⟩ := S.keep.up b o e hb
    obtain ⟨_, sl', h2⟩ := r _ _ h1
    exact ⟨sl', h2⟩
  · have hm := S.mus p hp
    exact ⟨ex hm.1 hm.2.1 (S.keep.none_fs hm.2.2.2), hm.2⟩
theorem Fs.funFrames {s : Shared} (S : Fs B L m mu fz s) {l : List Env} (hr : ∀ env ∈ l, env.scope.kind = .function ∧ ∃ f ∈ L :: B.fs, env.frame = some f) : s.heap.FunFrames { s.heap with objs := #[] } l := by
  induction l with
  | nil => trivial
  | cons env rest ih =>
    obtain ⟨h1, f, h2, h3⟩ := hr env List.mem_cons_self
    refine ⟨by rw [h1]; decide, ?_, ih fun e he => hr e (List.mem_cons_of_mem _ he)⟩
    have hf : ∃ o, s.heap.get? f = some o ∧ ∀ vs, o.data ≠ .fields vs := by
      rcases List.mem_cons.mp h2 with rfl | h2
      · obtain ⟨o, _, _, ho, hd, _⟩ := S.ns
        exact ⟨o, ho, fun vs q => by rw [hd] at q; cases q⟩
      · obtain ⟨o, ho, hn⟩ := S.keep.fsOk f h2
        obtain ⟨sl, h⟩ := S.keep.up f o ho h2
        exact ⟨_, h, hn⟩
    obtain ⟨o, ho, hn⟩ := hf
    exact ⟨f, o, h3, Heap.get?_none_of_le (Nat.zero_le _), ho, hn⟩
theorem x_try {body suite : List Stmt} {b₀ : Stmt} {x : Str} {np hp pos : Pos} {Q : Flow → Shared → Prop} (P : Prop) (hfr : FrOk A (L :: B.fs)) (hfr0 : ∃ l, A.frames = some (env :: l)) (hL : env.frame = some L) (hk : env.scope.kind = .function)
    (h : ∀ s, Fs B L m mu fz s → wpAny (model prog w) A (execs body env) (fun f s₁ => match f with | .next => Q .next s₁ | f => Q f s₁)
      (fun ev s₁ => ∃ s0 e h1 tk, ev = .ref e ∧ Fs B L m mu fz s0 ∧ Heap.NewExc s0.heap h1 e "ValueError" ∧ P ∧ s₁ = { s0 with heap := h1, toks := tk }) s)
    (hx : ∀ (A' : Around) (E' : Value → Shared → Prop) (Q' : Value → Shared → Prop) s, Fs B L m mu fz s → Q' (.type "ValueError") s → wpAny (model prog w) A' (eval (.Name x np) env) Q' E' s)
    (hs : P → ∀ e s, Fs B L m mu fz s → wpAny (model prog w) (A.mark (some (.ref e))) (execs (b₀ :: suite) env) Q NE s) :
    ∀ s, Fs B L m mu fz s → wpAny (model prog w) A (exec (.Try body [.ExceptHandler (some (.Name x np)) none (b₀ :: suite) hp] [] [] pos) env) Q NE s := fun s S => by
  refine wpAny_Try_except (wpAny_mono (h s S) (fun f s₁ h₁ => ?_) fun ev s₁ h₁ => ?_)
  · cases f with
    | next => exact wpAny_execs_nil h₁
    | brk => exact h₁
    | cont => exact h₁
    | ret v => exact h₁
  · obtain ⟨s0, e, h1, tk, rfl, S0, hx1, hP, rfl⟩ := h₁
    obtain ⟨ob, t0, he, hcls, hd⟩ := hx1.there
    have hen := hx1.new
    have r1 : Rd (L :: B.fs) s0.heap h1 := fun b o hb => ⟨fun _ => hx1.keeps b o hb, o.slots, hx1.keeps b o hb⟩
    obtain ⟨l, hl⟩ := hfr0
    have hall : ∀ en ∈ env :: l, en.scope.kind = .function ∧ ∃ f ∈ L :: B.fs, en.frame = some f := by
      obtain ⟨l', hl', hr⟩ := hfr
      rw [hl] at hl'
      cases hl'
      exact hr
    have FF := (S0.rd (tk := tk) r1).funFrames hall
    unfold noteFrame
    simp only [hL]
    refine wpAny_bind (wpAny_field he hd (x := .none) rfl ?_)
    rw [if_neg (by decide)]
    refine wpAny_bind (wpAny_frameOf_fun hl FF hL fun h₂ hs₂ => ?_)
    have hfs : ∀ b, b ∈ (env :: l).filterMap (·.frame) → b ∈ L :: B.fs := fun b hb => by
      obtain ⟨en, he1, he2⟩ := List.mem_filterMap.mp hb
      obtain ⟨_, f, hf1, hf2⟩ := hall en he1
      rw [he2] at hf2
      cases hf2
      exact hf1
    have r2 : Rd (L :: B.fs) s0.heap h₂ := fun b o hb => by
      obtain ⟨h1', sl, h2'⟩ := r1 b o hb
      refine ⟨fun hn => (hs₂.2.1 b fun x => hn (hfs b x)).trans (h1' hn), ?_⟩
      obtain ⟨sl', h3'⟩ := hs₂.2.2 b _ h2'
      exact ⟨sl', h3'⟩
    have heL : e ∉ (env :: l).filterMap (·.frame) := fun hm => by
      have := hfs e hm
      rcases List.mem_cons.mp this with q | q
      · obtain ⟨o, _, _, ho, _⟩ := S0.ns
        rw [q, ho] at hen; cases hen
      · obtain ⟨o, ho, _⟩ := S0.keep.fsOk e q
        obtain ⟨o', ho'⟩ := S0.keep.any ho
        rw [ho'] at hen; cases hen
    have he2 : h₂.get? e = some ob := (hs₂.2.1 e heL).trans he
    refine wpAny_bind (wpAny_entryPlaceOf fun pl hpl => ?_)
    unfold EntryCells.newEntry newFields
    refine wpAny_bind (wpAny_newObj_type ?_ (hpl.sizeOk5 _ _ _ _ _))
    generalize hto : ({ cls := .type "traceback", dict := none, data := .fields ([Value.none, .ref L, .none, rawInt L, .none] ++ (if pl.isEmpty then List.replicate 6 Value.none else pl)).toArray } : Obj) = ot
    have hotd : ot.data = .fields ([Value.none, .ref L, .none, rawInt L, .none] ++ (if pl.isEmpty then List.replicate 6 Value.none else pl)).toArray := by rw [← hto]
    have hotf : ot.isFreed = false := by rw [← hto]; rfl
    show wpAny (model prog w) A _ _ _ { heap := h₂.push _, gens := s0.gens, drawn := s0.drawn, toks := tk, os := s0.os }
    have r3 := r2.push ot
    have hT : (h₂.push ot).get? h₂.objs.size = some ot := Heap.get?_push_size _ hotf
    have he3 : (h₂.push ot).get? e = some ob := Heap.get?_push_of_some _ he2
    have hTn : s0.heap.get? h₂.objs.size = none := by
      cases q : s0.heap.get? h₂.objs.size with
      | none => rfl
      | some o => obtain ⟨_, sl, h2'⟩ := r2 _ _ q; exact absurd (Heap.lt_size h2') (Nat.lt_irrefl _)
    have hTe : h₂.objs.size ≠ e := Nat.ne_of_gt (Heap.lt_size he2)
    generalize h₂.objs.size = T at hT hTn hTe ⊢
    generalize h₂.push ot = h₃ at r3 hT he3 ⊢
    refine wpAny_setField he3 hd (by simp) ?_
    have hde : (ob.mapFields (·.setIfInBounds 1 (.ref T))).data = .fields ((#[t0, .none, .none, .none, .bool false, .none] : Array Value).setIfInBounds 1 (.ref T)) := Obj.data_mapFields hd _
    have he4 : (h₃.update e (Obj.mapFields (·.setIfInBounds 1 (.ref T)))).get? e = some (ob.mapFields (·.setIfInBounds 1 (.ref T))) := Heap.get?_update_self _ he3 (Obj.isFreed_of_fields hde)
    have hT4 : (h₃.update e (Obj.mapFields (·.setIfInBounds 1 (.ref T)))).get? T = some ot := (Heap.get?_update_other _ _ (Ne.symm hTe)).trans hT
    have r4 := r3.upd hen (Obj.mapFields (·.setIfInBounds 1 (.ref T)))
    generalize h₃.update e (Obj.mapFields (·.setIfInBounds 1 (.ref T))) = h₄ at he4 hT4 r4 ⊢
    refine wpAny_setFlight_none (tb := T) he4 hde (by simp) hT4 hotd (by simp only [List.size_toArray, List.length_append, List.length_cons, List.length_nil] <;> omega) ?_
    have hdT5 := Obj.data_mapFields hotd (·.setIfInBounds 3 Value.none)
    have hT5 : (h₄.update T (Obj.mapFields (·.setIfInBounds 3 Value.none))).get? T = some (ot.mapFields (·.setIfInBounds 3 Value.none)) := Heap.get?_update_self _ hT4 (Obj.isFreed_of_fields hdT5)
    have he5 : (h₄.update T (Obj.mapFields (·.setIfInBounds 3 Value.none))).get? e = some (ob.mapFields (·.setIfInBounds 1 (.ref T))) := (Heap.get?_update_other _ _ hTe).trans he4
    have r5 := r4.upd hTn (Obj.mapFields (·.setIfInBounds 3 Value.none))
    generalize h₄.update T (Obj.mapFields (·.setIfInBounds 3 Value.none)) = h₅ at he5 hT5 r5 ⊢
    refine wpAny_handleBy_builtin (X := "ValueError") (T := "ValueError") (b := true) (isSubtype_of_subB (by decide +kernel)) (isSubtype_of_subB (by decide +kernel)) (isSubtype_of_subB (by decide +kernel)) ?_
    have S5 : Fs B L m mu fz { s0 with heap := h₅, toks := tk } := S0.rd r5
    refine hx _ _ _ _ S5 ⟨rfl, ⟨_, he5, (Obj.cls_mapFields ..).trans hcls⟩, ?_⟩
    rw [if_pos rfl]
    have h1e : ((#[t0, .none, .none, .none, .bool false, .none] : Array Value).setIfInBounds 1 (.ref T))[1]? = some (.ref T) := by simp
    refine wpAny_setFlight_none (tb := T) he5 hde h1e hT5 hdT5 (by simp only [Array.size_setIfInBounds, List.size_toArray, List.length_append, List.length_cons, List.length_nil] <;> omega) ?_
    have r6 := r5.upd hTn (Obj.mapFields (·.setIfInBounds 3 Value.none))
    exact wpAny_mono (hs hP e _ (S0.rd (tk := tk) r6)) (fun _ _ x => x) fun _ _ x => x.elim
theorem e_biS {x : Str} {pos : Pos} {v : Value} {Q : Value → Shared → Prop} {s : Shared} (T : Tp mg mb B.f0) (hv : bt.lookup x = some v) (S : Fs B L m mu fz s) (h : Q v s)
    (hk : env.scope.kind = .function := by rfl) (hl : env.kindOf x = some .globalImplicit := by rfl) (hd : (x == ("__debug__" : Str)) = false := by decide) (hg : env.globals = mainGlobals := by rfl) (hb : env.builtins = builtinsNs := by rfl) :
    wpAny (model prog w) A (eval (.Name x pos) env) Q E s :=
  Name_function_global hk hl (loadGlobal_builtin (hg ▸ T.gns S) (T.miss _ _ hv).1 (hb ▸ T.bns S) (T.miss _ _ hv).2 h) hd

-- cells
theorem e_cell {x : Str} {pos : Pos} {c : Addr} {o : Obj} {v : Value} {Q : Value → Shared → Prop} (hc : env.cells.lookup x = some c) (ho : fz c o ∨ (c, o) ∈ mu) (hd' : o.data = .cell (some v)) (h : ∀ s, Fs B L m mu fz s → Q v s)
    (hk : env.scope.kind = .function := by rfl) (hl : env.kindOf x = some .cell := by rfl) (hd : (x == ("__debug__" : Str)) = false := by decide) :
    ∀ s, Fs B L m mu fz s → wpAny (model prog w) A (eval (.Name x pos) env) Q E s := fun s S =>
  wpAny_Name (wpAny_loadName_cell hk hl hc ⟨_, ho.elim S.get S.own, hd'⟩ (h s S)) hd
theorem store_cell {x : Str} {c : Addr} {o : Obj} {v : Value} {v₀ : Option Value} {pre post : Led} {Q : Unit → Shared → Prop} (hc : env.cells.lookup x = some c) (hd : o.data = .cell v₀) (h : ∀ s, Fs B L m (pre ++ (c, { o with data := .cell (some v) }) :: post) fz s → Q () s)
    (hk : env.scope.kind = .function := by rfl) (hl : env.kindOf x = some .cell := by rfl) :
    ∀ s, Fs B L m (pre ++ (c, o) :: post) fz s → wpAny (model prog w) A (storeName env x v) Q E s := fun s S => by
  have ho : s.heap.get? c = some o := S.own (by simp)
  unfold storeName
  simp only [hl, hk]
  refine wpAny_bind (wpAny_cellOf hc ?_)
  unfold cellSet
  refine wpAny_bind (wpAny_load ho ?_)
  rw [hd]
  exact wpAny_update ho (h _ (S.put (tk := s.toks) (Heap.get?_update_self _ ho rfl) fun b q hb e => (Heap.get?_update_other _ _ (Ne.symm hb)).trans e))
end
noncomputable def envOfC (name : Str) (scope : Scope) (L a : Addr) (cd : Value) : Env := { envOf name scope L a cd with cells := cellsFrom (L + 1) scope.names [] }
theorem bindL_all {kindOf : Str → Option NameKind} : ∀ {binds : List (Str × Value)} (m : Str → Option Value), (∀ x ∈ binds, kindOf x.1 = some .local) → bindL kindOf binds m = binds.foldl (fun m p => upd m p.1 p.2) m
  | [], _, _ => rfl
  | (n, v) :: r, m, h => by
    unfold bindL
    rw [if_pos (h (n, v) List.mem_cons_self), List.foldl_cons]
    exact bindL_all _ fun x hx => h x (List.mem_cons_of_mem _ hx)
theorem bindC_all {kindOf : Str → Option NameKind} : ∀ {binds : List (Str × Value)} (m : Str → Option Value), (∀ x ∈ binds, kindOf x.1 = some .local) → bindC kindOf binds m = m
  | [], _, _ => rfl
  | (n, v) :: r, m, h => by
    unfold bindC
    rw [if_pos (h (n, v) List.mem_cons_self)]
    exact bindC_all _ fun x hx => h x (List.mem_cons_of_mem _ hx)
section
variable {prog : Program} {w : World} {A : Around} {E : Value → Shared → Prop} {env : Env} {B : Bs} {L : Addr} {m : Str → Option Value} {mu : Led} {fz fz' : Fz} {mg mb : Str → Option Value} {t u : Tok}
theorem callX_fnC {a c k : Nat} {args : List Value} {binds : List (Str × Value)} {Q : Value → Shared → Prop} (Res : Value → Fz → Prop) (T : Tp mg mb fz) (hf : FnAt fz a c k) (hA : A.depth < recursionLimit)
    (hbind : ∀ pm doc, bindArgs (docDef (sName (topS k)) (sParams (topS k)) (sBody (topS k)) (sScope (topS k)) pm (.ref c) doc) ⟨args, []⟩ = pure binds)
    (hloc : (binds.all fun x => decide ((sScope (topS k)).names.lookup x.1 = some .local)) = true)
    (hb : ∀ (B' : Bs) (L' : Addr) (o : Addr → Obj), B'.f0 = fz → B'.fs = L :: B.fs → (∀ p ∈ cellsFrom (L' + 1) (sScope (topS k)).names [], (o p.2).data = .cell none) →
      ∀ s, Fs B' L' (mOf binds) ((cellsFrom (L' + 1) (sScope (topS k)).names []).map fun p => (p.2, o p.2)) fz s →
      wpX (model prog w) (A.deeper (envOfC (sName (topS k)) (sScope (topS k)) L' a (.ref c))) (execs (sBody (topS k)) (envOfC (sName (topS k)) (sScope (topS k)) L' a (.ref c))) (Ret B' L' Res) NE s)
    (h : ∀ v fz', fz.le fz' → Res v fz' → ∀ s, Fs B L m mu fz' s → Q v s)
    (hco : (sScope (topS k)).isCoroutine = false := by rfl) (hgen : (sScope (topS k)).isGenerator = false := by rfl) (hk : (sScope (topS k)).kind = .function := by rfl)
    (hnd : ∀ L', ((cellsFrom (L' + 1) (sScope (topS k)).names []).map (·.1)).Nodup := by intro _; decide) :
    ∀ s, Fs B L m mu fz s → wpX (model prog w) A (call (.ref a) args) Q E s := fun s S => by
  obtain ⟨ob, pm, doc, ho, hd, oc, vs, t, hoc, hdc, hq⟩ := hf
  refine wpX_call (codeX_of_tree rfl (wpX_any ?_))
  show wpAny _ A.in1 (callAny (.ref a) ⟨args, []⟩) _ _ s
  simp only [callAny]
  refine wpAny_bind (wpAny_load (S.get ho) ?_)
  have e1 : (docDef (sName (topS k)) (sParams (topS k)) (sBody (topS k)) (sScope (topS k)) pm (.ref c) doc).scope.isCoroutine = false := hco
  have e2 : (docDef (sName (topS k)) (sParams (topS k)) (sBody (topS k)) (sScope (topS k)) pm (.ref c) doc).scope.isGenerator = false := hgen
  have e3 : (docDef (sName (topS k)) (sParams (topS k)) (sBody (topS k)) (sScope (topS k)) pm (.ref c) doc).body = .stmts (sBody (topS k)) := rfl
  have e4 : (docDef (sName (topS k)) (sParams (topS k)) (sBody (topS k)) (sScope (topS k)) pm (.ref c) doc).code = .ref c := rfl
  simp only [hd, callFunction, e1, e2, e3, e4]
  refine wpAny_bind (m := field (.ref c) 1) (wpAny_field (S.get hoc) hdc hq (wpAny_bind (wpAny_pure ?_)))
  rw [hbind]
  refine wpAny_bind (wpAny_pure (wpAny_bind ?_))
  refine wpAny_newFunctionEnv_cells hk (fun x hx => .inl (locs hloc x hx)) fun en he s' X => ?_
  have hkl : ∀ x ∈ binds, en.kindOf x.1 = some .local := fun x hx => by subst he; exact locs hloc x hx
  rw [bindL_all _ hkl, bindC_all _ hkl] at X
  subst he
  obtain ⟨h₁, tk, rfl⟩ := X.toInCall.same
  refine wpAny_bind (wpAny_enterFrame ((T.noLimit S).keeps X.toInCall.keep) hA (wpAny_pure (And.intro rfl ?_)))
  have new : ∀ p ∈ cellsFrom (s.heap.objs.size + 1) (sScope (topS k)).names [], s.heap.objs.size < p.2 := fun p hp => X.above p.1 p.2 hp
  have fresh : ∀ {b : Addr}, s.heap.objs.size ≤ b → s.heap.get? b = none := fun {b} hb => Heap.get?_none_of_le hb
  have hcell : ∀ p ∈ cellsFrom (s.heap.objs.size + 1) (sScope (topS k)).names [], ∃ o, h₁.get? p.2 = some o ∧ o.data = .cell none := fun p hp => by
    refine X.cell p.1 p.2 ?_
    have hnd' := hnd s.heap.objs.size
    show (cellsFrom (s.heap.objs.size + 1) (sScope (topS k)).names []).lookup p.1 = some p.2
    generalize cellsFrom (s.heap.objs.size + 1) (sScope (topS k)).names [] = cs at hp hnd' ⊢
    induction cs with
    | nil => cases hp
    | cons q r ih =>
      obtain ⟨n, d⟩ := q
      rw [List.map_cons, List.nodup_cons] at hnd'
      rcases List.mem_cons.mp hp with rfl | hp
      · simp
      · have hne : (p.1 == n) = false := by
          rw [beq_eq_false_iff_ne]
          intro hpn
          exact hnd'.1 (List.mem_map.mpr ⟨p, by assumption, hpn⟩)
        rw [List.lookup_cons, hne]
        exact ih hp hnd'.2
  have S₁ : Fs ⟨s, fz, L :: B.fs⟩ s.heap.objs.size (mOf binds) ((cellsFrom (s.heap.objs.size + 1) (sScope (topS k)).names []).map fun p => (p.2, (h₁.get? p.2).getD (listOf #[] 0))) fz { s with heap := h₁, toks := tk } := by
    refine ⟨rfl, rfl, rfl, X.toInCall.ns, S.kpCall X.toInCall.keep, fresh (Nat.le_refl _), Fz.le_refl _, fun b o e => ?_, fun p hp => ?_, ?_⟩
    · have := S.get e
      exact ⟨X.toInCall.keep _ _ this, Nat.ne_of_lt (Heap.lt_size this), .inl e⟩
    · obtain ⟨q, hq, rfl⟩ := List.mem_map.mp hp
      obtain ⟨o, ho', _⟩ := hcell q hq
      refine ⟨by simp [ho'], Nat.ne_of_gt (new q hq), fun o' e => ?_, fresh (Nat.le_of_lt (new q hq))⟩
      exact absurd (Heap.lt_size (S.get e)) (Nat.not_lt.mpr (Nat.le_of_lt (new q hq)))
    · rw [List.map_map]
      have := X.apart
      exact List.pairwise_map.mpr this
  have hX := hb ⟨s, fz, L :: B.fs⟩ _ (fun b => (h₁.get? b).getD (listOf #[] 0)) rfl rfl (fun p hp => by obtain ⟨o, ho', hd'⟩ := hcell p hp; simp [ho', hd']) _ S₁
  refine codeX_func (wpX_mono hX (fun f s' hr => ?_) fun _ _ x => x.elim)
  obtain ⟨v, m', mu', fz', rfl, S', hR⟩ := hr
  exact h v fz' S'.le hR s' (S.back S')
end
end Mine
end
-- text MOp4
section
open PySem PySem.W PyProof.Rows PySem.Calls PySem.SeqAt
set_option Elab.async false
set_option maxRecDepth 100000
set_option linter.unusedVariables false
namespace Mine
section
variable {prog : Program} {w : World} {A : Around} {E : Value → Shared → Prop} {env : Env} {B : Bs} {L : Addr} {m : Str → Option Value} {mu : Led} {fz fz' : Fz} {mg mb : Str → Option Value} {t u : Tok} {a b : Int}
theorem i_divP {Q : Value → Shared → Prop} (hb : 0 < b) (hs : b.natAbs < 1073741824) (h : ∀ t s, Fs B L m mu fz s → Q (.int (a / b) t) s) : ∀ s, Fs B L m mu fz s → wpAny (model prog w) A (binaryOp .FloorDiv (.int a t) (.int b u)) Q E s :=
  i_div (by omega) (fun s S => .inl (PyProof.noPylong_small hs)) fun t s S => by rw [Int.fdiv_eq_ediv_of_nonneg _ (by omega)]; exact h t s S
theorem i_modP {Q : Value → Shared → Prop} (hb : 0 < b) (h : ∀ t s, Fs B L m mu fz s → Q (.int (a % b) t) s) : ∀ s, Fs B L m mu fz s → wpAny (model prog w) A (binaryOp .Mod (.int a t) (.int b u)) Q E s :=
  i_mod (by omega) fun t s S => by rw [Int.fmod_eq_emod_of_nonneg _ (by omega)]; exact h t s S
/-- x.append(e), x one of the own lists -/
theorem e_appendL {x : Str} {xp apos pos : Pos} {e : Expr} {l : Addr} {vs : List Value} {n : Nat} {pre post : Led} {Q : Value → Shared → Prop} (hv : m x = some (.ref l))
    (h : ∀ s, Fs B L m (pre ++ (l, listOf vs.toArray n) :: post) fz s → wpAny (model prog w) A (eval e env) (AppK l Q) E s)
    (hL : env.locals = L := by rfl) (hk : env.scope.kind = .function := by rfl) (hl : env.kindOf x = some .local := by rfl) (hd : (x == ("__debug__" : Str)) = false := by decide)
    (hbase : attributeBase (.Name x xp) "append" env (eval (.Name x xp) env) = eval (.Name x xp) env := by rfl) (hs : starEach [e] env = [(false, eval e env)] := by rfl) (hline : (apos.endLine == pos.line) = true := by rfl) :
    ∀ s, Fs B L m (pre ++ (l, listOf vs.toArray n) :: post) fz s → wpAny (model prog w) A (eval (.Call (.Attribute (.Name x xp) "append" apos) [e] [] pos) env) Q E s :=
  e_append (o := listOf vs.toArray n) hv (by simp) rfl rfl h hL hk hl hd hbase hs hline
theorem p_app {l : Addr} {vs : List Value} {n : Nat} {v : Value} {pre post : Led} {Q : Value → Shared → Prop} (hz : vs.length ≤ 1000000) (h : ∀ s, Fs B L m (pre ++ (l, listOf (vs ++ [v]).toArray (n + 1)) :: post) fz s → Q .none s) :
    ∀ s, Fs B L m (pre ++ (l, listOf vs.toArray n) :: post) fz s → AppK l Q v s := by
  refine p_append (by simpa using hz) ?_
  have e : vs.toArray.push v = (vs ++ [v]).toArray := by simp
  rw [e]; exact h
/-- an own list is told to stay -/
theorem fzL {o : Obj} {a : Addr} {P : Shared → Prop} (h : ∀ s, Fs B L m mu (fz.add a o) s → P s) : ∀ s, Fs B L m ((a, o) :: mu) fz s → P s := fun s S => h s S.freeze
theorem dropL {p : Addr × Obj} {P : Shared → Prop} (h : ∀ s, Fs B L m mu fz s → P s) : ∀ s, Fs B L m (p :: mu) fz s → P s := fun s S => h s S.drop
theorem permL {mu' : Led} {P : Shared → Prop} (hp : mu.Perm mu') (h : ∀ s, Fs B L m mu' fz s → P s) : ∀ s, Fs B L m mu fz s → P s := fun s S => h s (S.perm hp)
/-- an item of a list that stands for data -/
theorem p_itemT {α : Type} [DecidableEq α] (t1 : Ty α) {value slice : Expr} {v : Value} {xs : List α} {k : Int} {Q : Value → Shared → Prop} (hv : (TList t1).R fz v xs) (h0 : 0 ≤ k) (h1 : k.toNat < xs.length) (hz : xs.length ≤ 1000000)
    (h : ∀ v, t1.R fz v xs[k.toNat] → ∀ s, Fs B L m mu fz s → Q v s)
    (hs : ∀ a, subscripted slice false (.ref a) (.int k t) = operate [.ref a, .int k t] (getItem (.ref a) (.int k t)) := by intro _; with_unfolding_all rfl) :
    ∀ s, Fs B L m mu fz s → wpAny (model prog w) A (subscriptTail value slice v (.int k t)) Q E s := by
  obtain ⟨a, n, vs, rfl, ha, hal⟩ := hv
  have hl := hal.length
  have h1' : k.toNat < vs.length := by rw [hl]; exact h1
  exact p_item (.inl ha) rfl rfl h0 (List.getElem?_eq_getElem h1') (by omega) (fun s S => h _ (hal.get h1' h1) s S) (hs a)
theorem p_itemI {value slice : Expr} {v : Value} {xs : List Int} {k : Int} {Q : Value → Shared → Prop} (hv : (TList TInt).R fz v xs) (j : Nat) (hk : k = (j : Int)) (h1 : j < xs.length) (hz : xs.length ≤ 1000000)
    (h : ∀ t', ∀ s, Fs B L m mu fz s → Q (.int (xs.getD j 0) t') s)
    (hs : ∀ a, subscripted slice false (.ref a) (.int k t) = operate [.ref a, .int k t] (getItem (.ref a) (.int k t)) := by intro _; with_unfolding_all rfl) :
    ∀ s, Fs B L m mu fz s → wpAny (model prog w) A (subscriptTail value slice v (.int k t)) Q E s := by
  have ek : k.toNat = j := by omega
  have h1' : k.toNat < xs.length := by rw [ek]; exact h1
  refine p_itemT TInt hv (by omega) h1' hz (fun u hu => ?_) hs
  obtain ⟨t', rfl⟩ := hu
  have e : xs[k.toNat] = xs.getD j 0 := by
    have : xs[k.toNat] = xs.getD k.toNat 0 := by simp [List.getD, h1']
    rw [this, ek]
  rw [e]
  exact h t'
end
end Mine
end
-- text MOp5
section
open PySem PySem.W PyProof.Rows PySem.Calls PySem.SeqAt
set_option Elab.async false
set_option maxRecDepth 100000
set_option linter.unusedVariables false
namespace Mine
section
variable {prog : Program} {w : World} {A : Around} {E : Value → Shared → Prop} {env : Env} {B : Bs} {L : Addr} {m : Str → Option Value} {mu : Led} {fz fz' : Fz} {mg mb : Str → Option Value} {t u : Tok}
/-- how a frame hands back, own objects too -/
noncomputable def RetO (B : Bs) (L : Addr) (Res : Value → Led → Fz → Prop) (f : Flow) (s : Shared) : Prop := ∃ v m mu fz, f = .ret v ∧ Fs B L m mu fz s ∧ Res v mu fz
theorem RetO.mk {s : Shared} {Res : Value → Led → Fz → Prop} {v : Value} (S : Fs B L m mu fz s) (h : Res v mu fz) : RetO B L Res (.ret v) s := ⟨v, m, mu, fz, rfl, S, h⟩
/-- a call of a def of the text that takes own objects and hands some back -/
theorem callO_fn {a c k : Nat} {ex : Led} {args : List Value} {binds : List (Str × Value)} {Q : Value → Shared → Prop} (Res : Value → Led → Fz → Prop) (T : Tp mg mb fz) (hf : FnAt fz a c k) (hA : A.depth < recursionLimit)
    (hbind : ∀ pm doc, bindArgs (docDef (sName (topS k)) (sParams (topS k)) (sBody (topS k)) (sScope (topS k)) pm (.ref c) doc) ⟨args, []⟩ = pure binds)
    (hloc : (binds.all fun x => decide ((sScope (topS k)).names.lookup x.1 = some .local)) = true)
    (hb : ∀ (B' : Bs) (L' : Addr), B'.f0 = fz → B'.fs = L :: B.fs → ∀ s, Fs B' L' (mOf binds) ex fz s →
      wpAny (model prog w) (A.deeper (envOf (sName (topS k)) (sScope (topS k)) L' a (.ref c))) (execs (sBody (topS k)) (envOf (sName (topS k)) (sScope (topS k)) L' a (.ref c))) (RetO B' L' Res) NE s)
    (h : ∀ v mu' fz', fz.le fz' → Res v mu' fz' → ∀ s, Fs B L m (mu' ++ mu) fz' s → Q v s)
    (hco : (sScope (topS k)).isCoroutine = false := by rfl) (hgen : (sScope (topS k)).isGenerator = false := by rfl) (hk : (sScope (topS k)).kind = .function := by rfl)
    (hcell : ∀ x ∈ (sScope (topS k)).names, x.2 ≠ .cell := by decide) :
    ∀ s, Fs B L m (ex ++ mu) fz s → wpAny (model prog w) A (call (.ref a) args) Q E s := fun s S => by
  obtain ⟨o, pm, doc, ho, hd, oc, vs, t, hoc, hdc, hq⟩ := hf
  refine wpAny_call (call_plain_ret hA (S.get ho) hd (T.noLimit S) ⟨c, oc, vs, t, rfl, S.get hoc, hdc, hq⟩ (hbind pm doc) (locs hloc) (fun h₁ F => ?_) hco hgen hk hcell)
  rw [lookup_mOf] at F
  have S₁ := S.callee (h₁ := h₁) (tk := s.toks + binds.length) (C := s.heap.objs.size) (mC := mOf binds) F.keep (Nat.le_refl _) F.ns
  refine wpAny_mono (hb ⟨Mine.hid s ex, fz, L :: B.fs⟩ _ rfl rfl _ S₁) (fun f s' hr => ?_) fun _ _ x => x
  obtain ⟨v, m', mu', fz', rfl, S', hR⟩ := hr
  obtain ⟨oC, _, S''⟩ := S.hid.backF S'
  exact h v mu' fz' S'.le hR s' S''.drop
theorem TList.of {α : Type} [DecidableEq α] {t : Ty α} {a : Addr} {n : Nat} {vs : List Value} {xs : List α} (ha : fz a (listOf vs.toArray n)) (h : Al (t.R fz) vs xs) : (TList t).R fz (.ref a) xs := ⟨a, n, vs, rfl, ha, h⟩
theorem Al.up {α : Type} [DecidableEq α] {t : Ty α} {f g : Fz} {vs : List Value} {xs : List α} (h : Al (t.R f) vs xs) (hle : f.le g) : Al (t.R g) vs xs := h.mono fun _ _ r => t.mono hle r
theorem IntsAre.al {f : Fz} {vs : List Value} {ns : List Int} (h : IntsAre vs ns) : Al (TInt.R f) vs ns := by
  induction h with
  | nil => exact .nil
  | cons n t _ ih => exact .cons ⟨t, rfl⟩ ih
/-- a comprehension's item is done -/
theorem cdone {α : Type} [DecidableEq α] {t2 : Ty α} {fz₁ fz₂ : Fz} {v : Value} {x : α} {s : Shared} (S : Fs B L m mu fz₂ s) (hle : fz₁.le fz₂) (h : t2.R fz₂ v x) : ∃ fz₂, fz₁.le fz₂ ∧ t2.R fz₂ v x ∧ Fs B L m mu fz₂ s := ⟨fz₂, hle, h, S⟩
end
end Mine
end
-- text MOp6
section
open PySem PySem.W PyProof.Rows PySem.Calls PySem.SeqAt
set_option Elab.async false
set_option maxRecDepth 100000
set_option linter.unusedVariables false
namespace Mine
section
variable {prog : Program} {w : World} {A : Around} {E : Value → Shared → Prop} {env : Env} {B : Bs} {L : Addr} {m : Str → Option Value} {mu : Led} {fz fz' : Fz} {mg mb : Str → Option Value} {t u : Tok}
theorem e_un {M : Model} {op : UnaryOp} {x : Expr} {pos : Pos} {Q : Value → Shared → Prop} (h : ∀ s, Fs B L m mu fz s → wpAny M A (eval x env) (fun v s₁ => wpAny M A (unaryOp op v) Q E s₁) E s) :
    ∀ s, Fs B L m mu fz s → wpAny M A (eval (.UnaryOp op x pos) env) Q E s := fun s S => wpAny_UnaryOp (h s S)
theorem i_neg {a : Int} {Q : Value → Shared → Prop} (h : ∀ t s, Fs B L m mu fz s → Q (.int (-a) t) s) :
    ∀ s, Fs B L m mu fz s → wpAny (model prog w) A (unaryOp .USub (.int a t)) Q E s := fun s S =>
  PySem.unaryOp_gives (T := "int") (by rfl) rfl F.slot_int_neg F.entry_int_neg (F.args_int_neg_1 _) (AutoIntG9.int___neg___int_0 a t) (h _ _ S.toks)
end
end Mine
end
section
open PySem PySem.W PyProof.Rows PySem.Calls
set_option Elab.async false
set_option maxRecDepth 100000
set_option linter.unusedVariables false
set_option linter.unusedSimpArgs false
set_option maxHeartbeats 8000000
namespace Mine
-- text MSwap
section
variable {prog : Program} {w : World} {A : Around} {E : Value → Shared → Prop} {B : Bs} {L : Addr} {mg mb : Str → Option Value} {m : Str → Option Value} {mu : Led} {fz : Fz}
theorem swap_body {l : List UInt8} {t u : Tok} (T : Tp mg mb B.f0) (hh : A.handled = none) (hn : 0 < l.length) (hn2 : l.length ≤ 1000) :
    ∀ s, Fs B L (mOf [(Str.ofString "data", .bytes l.toArray t), (Str.ofString "width", .int l.length u)]) [] B.f0 s →
    wpX (model prog w) A (execs (sBody (topS 13)) (envOf (sName (topS 13)) (sScope (topS 13)) L 72 (.ref 71))) (Ret B L fun v _ => ∃ t, v = .bytes l.reverse.toArray t) NE s := by
  unfold mOf
  simp only [List.foldl_cons, List.foldl_nil]
  refine y_cons ?_
  refine y_assign ?_
  refine y_call ?_
  refine y_any ?_
  refine e_bi (by assumption) (by rfl) ?_
  refine y_type ?_
  refine a_cons ?_
  refine e_call ?_
  refine e_bi (by assumption) (by rfl) ?_
  refine c_builtin ?_
  refine a_cons ?_
  refine e_loc (by repeat first | assumption | exact upd_same | refine upd_ne (by decide) ?_) ?_
  refine a_nil ?_
  refine k_lenBytes (by simp; omega) fun t1 => ?_
  refine a_nil ?_
  refine p_ba (by simp; omega) (by simp; omega) fun a => ?_
  refine y_any ?_
  refine store ?_
  refine y_any ?_
  refine x_cons ?_
  refine x_for0 ?_
  refine e_call ?_
  refine e_bi (by assumption) (by rfl) ?_
  refine c_type ?_
  refine a_cons ?_
  refine e_int ?_; intro _
  refine a_cons ?_
  refine e_call ?_
  refine e_bi (by assumption) (by rfl) ?_
  refine c_builtin ?_
  refine a_cons ?_
  refine e_loc (by repeat first | assumption | exact upd_same | refine upd_ne (by decide) ?_) ?_
  refine a_nil ?_
  refine k_lenBytes (by simp; omega) fun t2 => ?_
  refine a_cons ?_
  refine e_loc (by repeat first | assumption | exact upd_same | refine upd_ne (by decide) ?_) ?_
  refine a_nil ?_
  have el : ((l.toArray.size : Nat) : Int) = l.length := by simp
  rw [el]
  refine k_range3 (by omega) (PyProof.noPylong_small (by omega)) fun r t3 t4 t5 => ?_
  refine for_range (n := 1) (J := fun i m' mu' fz' => m' (Str.ofString "data") = some (.bytes l.toArray t) ∧ m' (Str.ofString "width") = some (.int l.length u) ∧ m' (Str.ofString "swapped_data") = some (.ref a) ∧
      mu' = [(a, baObj (if i = 0 then revPart l 0 else revPart l l.length))]) Fz.add_self (by rw [rangeSize_whole (by omega)]; rfl) (small_whole (by omega) (by omega)) hh ?_ ?_ ?_
  · refine ⟨by repeat first | assumption | exact upd_same | refine upd_ne (by decide) ?_, by repeat first | assumption | exact upd_same | refine upd_ne (by decide) ?_, by repeat first | assumption | exact upd_same | refine upd_ne (by decide) ?_, ?_⟩
    simp [revPart_zero]
  · rintro i ti m₁ mu₁ fz₁ ex hi hle ⟨h1, h2, h3, rfl⟩
    obtain rfl : i = 0 := by omega
    simp only [List.singleton_append, if_true, Int.ofNat_zero, Int.natCast_zero, Int.zero_mul, Int.add_zero]
    refine x_cons ?_
    refine x_for0 ?_
    refine e_call ?_
    refine e_bi (by assumption) (by rfl) ?_
    refine c_type ?_
    refine a_cons ?_
    refine e_loc (by repeat first | assumption | exact upd_same | refine upd_ne (by decide) ?_) ?_
    refine a_nil ?_
    refine k_range1 fun r2 t6 t7 t8 => ?_
    refine for_range (n := l.length) (J := fun j m' mu' fz' => m' (Str.ofString "data") = some (.bytes l.toArray t) ∧ m' (Str.ofString "width") = some (.int l.length u) ∧ m' (Str.ofString "swapped_data") = some (.ref a) ∧
      m' (Str.ofString "i") = some (.int 0 ti) ∧ mu' = (a, baObj (revPart l j)) :: ex) Fz.add_self (by rw [rangeSize_one, if_pos (by omega)]; omega) (small_up (by omega) (by omega) (by omega) (by omega)) hh ?_ ?_ ?_
    · exact ⟨by repeat first | assumption | exact upd_same | refine upd_ne (by decide) ?_, by repeat first | assumption | exact upd_same | refine upd_ne (by decide) ?_, by repeat first | assumption | exact upd_same | refine upd_ne (by decide) ?_, by repeat first | assumption | exact upd_same | refine upd_ne (by decide) ?_, rfl⟩
    · rintro j tj m₂ mu₂ fz₂ ex2 hj hle2 ⟨g1, g2, g3, g4, rfl⟩
      simp only [Int.zero_add, Int.mul_one]
      refine x_cons ?_
      refine x_assignSub ?_
      refine e_sub ?_
      refine e_loc (by repeat first | assumption | exact upd_same | refine upd_ne (by decide) ?_) ?_
      refine e_bin ?_
      refine e_loc (by repeat first | assumption | exact upd_same | refine upd_ne (by decide) ?_) ?_
      refine e_loc (by repeat first | assumption | exact upd_same | refine upd_ne (by decide) ?_) ?_
      refine i_add ?_; intro _
      refine p_byteAt (by omega) (by omega) (by omega) fun t9 => ?_
      refine e_loc (by repeat first | assumption | exact upd_same | refine upd_ne (by decide) ?_) ?_
      refine e_bin ?_
      refine e_bin ?_
      refine e_bin ?_
      refine e_loc (by repeat first | assumption | exact upd_same | refine upd_ne (by decide) ?_) ?_
      refine e_loc (by repeat first | assumption | exact upd_same | refine upd_ne (by decide) ?_) ?_
      refine i_add ?_; intro _
      refine e_int ?_; intro _
      refine i_sub ?_; intro _
      refine e_loc (by repeat first | assumption | exact upd_same | refine upd_ne (by decide) ?_) ?_
      refine i_sub ?_; intro _
      refine p_baSet (pre := []) (by omega) (by rw [revPart_size _ _ (by omega)]; omega) (by rw [revPart_size _ _ (by omega)]; omega) (by omega) ?_ ?_
      · have := (l.getD ((0 + (j : Int)).toNat) 0).toNat_lt; omega
      · have e1 : ((0 : Int) + l.length - 1 - j).toNat = l.length - 1 - j := by omega
        have e2 : ((0 : Int) + (j : Int)).toNat = j := by omega
        have e3 : ((l.getD j 0).toNat : Int).toNat.toUInt8 = l.getD j 0 := by simp
        rw [e1, e2, e3, revPart_succ l j hj]
        refine x_nil ?_
        exact fun s S => TurnPost.next (mu := (a, baObj (revPart l (j + 1))) :: ex) S (Fz.le_refl _) ⟨by repeat first | assumption | exact upd_same | refine upd_ne (by decide) ?_, by repeat first | assumption | exact upd_same | refine upd_ne (by decide) ?_, by repeat first | assumption | exact upd_same | refine upd_ne (by decide) ?_, by repeat first | assumption | exact upd_same | refine upd_ne (by decide) ?_, rfl⟩
    · rintro m₂ mu₂ fz₂ hle2 ⟨g1, g2, g3, g4, rfl⟩
      refine x_nil ?_
      exact fun s S => TurnPost.next (mu := [(a, baObj (revPart l l.length))]) S (Fz.le_trans Fz.le_add hle2) ⟨g1, g2, g3, by simp⟩
  · rintro m₁ mu₁ fz₁ hle ⟨h1, h2, h3, rfl⟩
    refine x_cons ?_
    refine x_ret ?_
    refine e_call ?_
    refine e_bi (by assumption) (by rfl) ?_
    refine c_type ?_
    refine a_cons ?_
    refine e_loc (by repeat first | assumption | exact upd_same | refine upd_ne (by decide) ?_) ?_
    refine a_nil ?_
    refine p_baBytes (b := revPart l l.length) (by simp) (by rw [revPart_size _ _ (by omega)]; omega) fun t9 => ?_
    rw [revPart_all]
    exact fun s S => Ret.mk S ⟨_, rfl⟩
theorem swap_call {l : List UInt8} {t u : Tok} {Q : Value → Shared → Prop} (T : Tp mg mb fz) (hh : A.handled = none) (hd : A.depth < 900) (hn : 0 < l.length) (hn2 : l.length ≤ 1000)
    (h : ∀ t s, Fs B L m mu fz s → Q (.bytes l.reverse.toArray t) s) :
    ∀ s, Fs B L m mu fz s → wpX (model prog w) A (call (.ref 72) [.bytes l.toArray t, .int l.length u]) Q E s := by
  intro s S
  have hle0 := S.le
  revert s S
  refine callX_fn (binds := [(Str.ofString "data", .bytes l.toArray t), (Str.ofString "width", .int l.length u)]) (fun v _ => ∃ t, v = .bytes l.reverse.toArray t) T T.f72 (Nat.lt_trans hd (by decide)) (fun pm doc => rfl) (by rfl)
    (fun B' L' e _ s' S' => ?_) (fun v fz' hle hr s' S' => ?_)
  · subst e
    exact swap_body (A := A.deeper _) T hh hn hn2 s' S'
  · obtain ⟨t', rfl⟩ := hr
    exact h _ _ (S'.less hle hle0)
end
-- text MB64
/-- the sign that is written for six bits -/
noncomputable def sx (lc : Int) (k : Int) : Int := ((B64.getD ((lc / 2 ^ k.toNat) % 64).toNat 0).toNat : Nat)
noncomputable def inn (lc lb : Int) (out : List Int) : Int × List Int :=
  if lb < 6 then (lb, out) else if lb - 6 < 6 then (lb - 6, out ++ [sx lc (lb - 6)]) else (lb - 12, out ++ [sx lc (lb - 6)] ++ [sx lc (lb - 12)])
theorem inn_turn {lc lb : Int} {out : List Int} (h : 6 ≤ lb) (h2 : lb ≤ 13) : inn lc lb out = inn lc (lb - 6) (out ++ [sx lc (lb - 6)]) := by
  unfold inn
  rw [if_neg (by omega)]
  by_cases h3 : lb - 6 < 6
  · rw [if_pos h3, if_pos h3]
  · rw [if_neg h3, if_neg h3, if_pos (by omega)]
    have : lb - 6 - 6 = lb - 12 := by omega
    rw [this]
structure B6 where
  lc : Int
  lb : Int
  out : List Int
noncomputable def b6step (s : B6) (b : UInt8) : B6 :=
  let lc := (s.lc * 256 + b.toNat) % 65536
  ⟨lc, (inn lc (s.lb + 8) s.out).1, (inn lc (s.lb + 8) s.out).2⟩
noncomputable def b6 (l : List UInt8) : B6 := l.foldl b6step ⟨0, 0, []⟩
structure B6.Ok (s : B6) : Prop where
  c0 : 0 ≤ s.lc
  c1 : s.lc < 65536
  b0 : 0 ≤ s.lb
  b1 : s.lb < 6
theorem inn_lt {lc lb : Int} {out : List Int} (h0 : 0 ≤ lb) (h : lb ≤ 13) : 0 ≤ (inn lc lb out).1 ∧ (inn lc lb out).1 < 6 := by
  unfold inn
  split
  · dsimp only; omega
  · split <;> dsimp only <;> omega
theorem b6step_ok {s : B6} (h : s.Ok) (b : UInt8) : (b6step s b).Ok := by
  have := inn_lt (lc := (s.lc * 256 + b.toNat) % 65536) (lb := s.lb + 8) (out := s.out) (by have := h.b0; omega) (by have := h.b1; omega)
  refine ⟨?_, ?_, this.1, this.2⟩
  · show 0 ≤ (s.lc * 256 + b.toNat) % 65536; omega
  · show (s.lc * 256 + b.toNat) % 65536 < 65536; omega
theorem b6_ok (l : List UInt8) : (b6 l).Ok := by
  have : ∀ (l : List UInt8) (s : B6), s.Ok → (l.foldl b6step s).Ok := by
    intro l
    induction l with
    | nil => intro s h; exact h
    | cons b l ih => intro s h; exact ih _ (b6step_ok h b)
  exact this l _ ⟨by decide, by decide, by decide, by decide⟩
theorem b6_take {l : List UInt8} {i : Nat} (h : i < l.length) : b6 (l.take (i + 1)) = b6step (b6 (l.take i)) l[i] := by
  have e : l.take (i + 1) = l.take i ++ [l[i]] := by rw [List.take_add_one, List.getElem?_eq_getElem h]; rfl
  rw [e, b6, List.foldl_append]; rfl
theorem inn_len {lc lb : Int} {out : List Int} : (inn lc lb out).2.length ≤ out.length + 2 := by
  unfold inn
  split
  · dsimp only; omega
  · split <;> simp
theorem b6_len (l : List UInt8) : (b6 l).out.length ≤ 2 * l.length := by
  have : ∀ (l : List UInt8) (s : B6), (l.foldl b6step s).out.length ≤ s.out.length + 2 * l.length := by
    intro l
    induction l with
    | nil => intro s; simp
    | cons b l ih =>
      intro s
      rw [List.foldl_cons]
      have h1 := ih (b6step s b)
      have h2 : (b6step s b).out.length ≤ s.out.length + 2 := inn_len
      rw [List.length_cons]; omega
  have := this l ⟨0, 0, []⟩
  simpa [b6] using this
theorem bitOr_pp {x y : Int} (hx : 0 ≤ x) (hy : 0 ≤ y) : Builtin.bitOr x y = ((x.toNat ||| y.toNat : Nat) : Int) := by
  have nn : ∀ z : Int, Builtin.bitNot z = -z - 1 := by intro z; unfold Builtin.bitNot; omega
  unfold Builtin.bitOr
  rw [PyProof.Rows.bitAnd_nn (by rw [nn]; omega) (by rw [nn]; omega)]
  have e : ∀ z : Int, Builtin.bitNot (Builtin.bitNot z) = z := by intro z; rw [nn, nn]; omega
  rw [e, e, e]
theorem or8 {lc b : Int} (h0 : 0 ≤ lc) (hb0 : 0 ≤ b) (hb1 : b < 256) : Builtin.bitOr (lc * 2 ^ (8 : Int).toNat) b = lc * 256 + b := by
  have e : lc * 2 ^ (8 : Int).toNat = lc * 256 := rfl
  rw [e, bitOr_pp (by omega) hb0]
  have h := Nat.two_pow_add_eq_or_of_lt (i := 8) (b := b.toNat) (by omega) lc.toNat
  have e2 : (lc * 256).toNat = 2 ^ 8 * lc.toNat := by omega
  rw [e2, ← h]
  omega

section
variable {prog : Program} {w : World} {A : Around} {E : Value → Shared → Prop} {B : Bs} {L : Addr} {mg mb : Str → Option Value} {m : Str → Option Value} {mu : Led} {fz : Fz} {t u : Tok}
theorem buffer_call {b : Array UInt8} {Q : Value → Shared → Prop} (T : Tp mg mb fz) (hd : A.depth < 900) (h : ∀ s, Fs B L m mu fz s → Q (.bytes b t) s) :
    ∀ s, Fs B L m mu fz s → wpAny (model prog w) A (call (.ref 35) [.bytes b t]) Q E s := by
  intro s S
  have hle0 := S.le
  revert s S
  refine call_fn (binds := [(Str.ofString "data", .bytes b t)]) (fun v _ => v = .bytes b t) T T.f35 (Nat.lt_trans hd (by decide)) (fun pm doc => rfl) (by rfl)
    (fun B' L' e _ => ?_) (fun v fz' hle hr s' S' => ?_)
  · subst e
    unfold mOf
    simp only [List.foldl_cons, List.foldl_nil]
    refine x_cons ?_
    refine x_assign ?_
    refine e_call ?_
    refine e_bi (by assumption) (by rfl) ?_
    refine c_type ?_
    refine a_cons ?_
    refine e_loc (by repeat first | assumption | exact upd_same | refine upd_ne (by decide) ?_) ?_
    refine a_nil ?_
    refine p_typeB ?_
    refine store ?_
    refine x_cons ?_
    refine x_if ?_
    refine t_cmp ?_
    refine e_loc (by repeat first | assumption | exact upd_same | refine upd_ne (by decide) ?_) ?_
    refine e_bi (by assumption) (by rfl) ?_
    refine p_isT ?_
    refine tr_bool ?_
    refine brT (by decide) ?_
    refine x_cons ?_
    refine x_ret ?_
    refine e_loc (by repeat first | assumption | exact upd_same | refine upd_ne (by decide) ?_) ?_
    exact fun s S => Ret.mk S rfl
  · subst hr
    exact h _ (S'.less hle hle0)
theorem truth_call {Q : Value → Shared → Prop} (T : Tp mg mb fz) (hd : A.depth < 900) (h : ∀ s, Fs B L m mu fz s → Q (.bool false) s) :
    ∀ s, Fs B L m mu fz s → wpAny (model prog w) A (call (.ref 42) [.bool false]) Q E s := by
  intro s S
  have hle0 := S.le
  revert s S
  refine call_fn (binds := [(Str.ofString "x", .bool false)]) (fun v _ => v = .bool false) T T.f42 (Nat.lt_trans hd (by decide)) (fun pm doc => rfl) (by rfl)
    (fun B' L' e _ => ?_) (fun v fz' hle hr s' S' => ?_)
  · subst e
    unfold mOf
    simp only [List.foldl_cons, List.foldl_nil]
    refine x_cons ?_
    refine x_assign ?_
    refine e_call ?_
    refine e_bi (by assumption) (by rfl) ?_
    refine c_type ?_
    refine a_cons ?_
    refine e_loc (by repeat first | assumption | exact upd_same | refine upd_ne (by decide) ?_) ?_
    refine a_nil ?_
    refine p_typeBool ?_
    refine store ?_
    refine x_cons ?_
    refine x_if ?_
    refine t_or ?_
    refine t_cmp ?_
    refine e_loc (by repeat first | assumption | exact upd_same | refine upd_ne (by decide) ?_) ?_
    refine e_none ?_
    refine p_isNone ?_
    refine tr_bool ?_
    refine brF (by decide) ?_
    refine t_or ?_
    refine t_cmp ?_
    refine e_loc (by repeat first | assumption | exact upd_same | refine upd_ne (by decide) ?_) ?_
    refine e_bi (by assumption) (by rfl) ?_
    refine p_isT ?_
    refine tr_bool ?_
    refine brT (by decide) ?_
    refine brT (by decide) ?_
    refine x_cons ?_
    refine x_ret ?_
    refine e_ifexp ?_
    refine t_name ?_
    refine e_loc (by repeat first | assumption | exact upd_same | refine upd_ne (by decide) ?_) ?_
    refine tr_bool ?_
    refine brF (by decide) ?_
    refine e_bool ?_
    exact fun s S => Ret.mk S rfl
  · subst hr
    exact h _ (S'.less hle hle0)
end
section
variable {prog : Program} {w : World} {A : Around} {E : Value → Shared → Prop} {B : Bs} {L : Addr} {mg mb : Str → Option Value} {m : Str → Option Value} {mu : Led} {fz : Fz} {t u : Tok}
theorem wnext {I : Nat → (Str → Option Value) → Led → Fz → Prop} {n n' : Nat} {s : Shared} (S : Fs B L m mu fz s) (hlt : n' < n) (h : I n' m mu fz) : ∃ n' m' mu' fz', n' < n ∧ I n' m' mu' fz' ∧ Fs B L m' mu' fz' s :=
  ⟨n', m, mu, fz, hlt, h, S⟩
theorem push_toArr {α : Type} (vs : List α) (v : α) : vs.toArray.push v = (vs ++ [v]).toArray := by simp
theorem B64_len : B64.length = 64 := by decide +kernel
theorem sx_in (lc k : Int) : 0 ≤ sx lc k ∧ sx lc k < 256 := by
  unfold sx
  have := (B64.getD ((lc / 2 ^ k.toNat) % 64).toNat 0).toNat_lt
  omega
theorem b2a_body {l : List UInt8} (T : Tp mg mb B.f0) (hh : A.handled = none) (hd : A.depth < 900) (hl : l.length ≤ 1000) (hb : (b6 l).lb = 0) (hr : ∀ n ∈ (b6 l).out, 0 ≤ n ∧ n < 256) :
    ∀ s, Fs B L (mOf [(Str.ofString "data", .bytes l.toArray t), (Str.ofString "newline", .bool false)]) [] B.f0 s →
    wpAny (model prog w) A (execs (sBody (topS 7)) (envOf (sName (topS 7)) (sScope (topS 7)) L 50 (.ref 49))) (Ret B L fun v _ => ∃ t, v = .bytes (byteArr (b6 l).out) t) NE s := by
  unfold mOf
  simp only [List.foldl_cons, List.foldl_nil]
  obtain ⟨tB, hB⟩ := T.b64
  refine x_cons ?_
  refine x_assign ?_
  refine e_call ?_
  refine e_glob (by assumption) (by rfl) ?_
  refine c_fn T.f35 ?_
  refine a_cons ?_
  refine e_loc (by repeat first | assumption | exact upd_same | refine upd_ne (by decide) ?_) ?_
  refine a_nil ?_
  refine l_fl ?_
  refine buffer_call T hd ?_
  refine store ?_
  refine x_cons ?_
  refine x_assign ?_
  refine e_call ?_
  refine e_glob (by assumption) (by rfl) ?_
  refine c_fn T.f42 ?_
  refine a_cons ?_
  refine e_loc (by repeat first | assumption | exact upd_same | refine upd_ne (by decide) ?_) ?_
  refine a_nil ?_
  refine l_fl ?_
  refine truth_call T hd ?_
  refine store ?_
  refine x_cons ?_
  refine x_assign ?_
  refine e_list ?_
  refine a_nil ?_
  refine p_newList (by simp) fun a => ?_
  refine store ?_
  refine x_cons ?_
  refine x_assign ?_
  refine e_int ?_; intro _
  refine store ?_
  refine x_cons ?_
  refine x_assign ?_
  refine e_int ?_; intro _
  refine store ?_
  refine x_cons ?_
  refine x_for0 ?_
  refine e_loc (by repeat first | assumption | exact upd_same | refine upd_ne (by decide) ?_) ?_
  refine for_bytes (J := fun i m' mu' fz' => ∃ vs n tc tb, m' (Str.ofString "out") = some (.ref a) ∧ m' (Str.ofString "leftbits") = some (.int (b6 (l.take i)).lb tb) ∧ m' (Str.ofString "leftchar") = some (.int (b6 (l.take i)).lc tc) ∧
      m' (Str.ofString "newline") = some (.bool false) ∧ mu' = [(a, listOf vs.toArray n)] ∧ IntsAre vs (b6 (l.take i)).out) hh ?_ ?_ ?_
  · exact ⟨[], 0, _, _, by repeat first | assumption | exact upd_same | refine upd_ne (by decide) ?_, by repeat first | assumption | exact upd_same | refine upd_ne (by decide) ?_, by repeat first | assumption | exact upd_same | refine upd_ne (by decide) ?_, by repeat first | assumption | exact upd_same | refine upd_ne (by decide) ?_, rfl, .nil⟩
  · rintro i hi ti m₁ mu₁ fz₁ ex hle ⟨vs, n, tc, tb, h1, h2, h3, h4, rfl, h5⟩
    have ok := b6_ok (l.take i)
    have hlen := b6_len (l.take i)
    have hlt : (l.take i).length ≤ 1000 := by rw [List.length_take]; omega
    have e1 := b6_take hi
    generalize b6 (l.take i) = S0 at ok hlen e1 h2 h3 h5
    rw [e1]
    have hbb : 0 ≤ ((l[i].toNat : Nat) : Int) ∧ ((l[i].toNat : Nat) : Int) < 256 := by have := l[i].toNat_lt; omega
    refine x_cons ?_
    refine x_assign ?_
    refine e_bin ?_
    refine e_bin ?_
    refine e_bin ?_
    refine e_loc (by repeat first | assumption | exact upd_same | refine upd_ne (by decide) ?_) ?_
    refine e_int ?_; intro _
    have eb : ∀ x : Int, 0 ≤ x → x < 65536 → Builtin.Int.intBits x ≤ 16 := fun x h0 h1 => intBits_le_iff.mpr (by omega)
    refine i_shl (by omega) (by have := eb S0.lc ok.c0 ok.c1; omega) fun t1 => ?_
    refine e_loc (by repeat first | assumption | exact upd_same | refine upd_ne (by decide) ?_) ?_
    refine i_or ?_; intro _
    refine e_int ?_; intro _
    refine i_and ?_; intro _
    refine store ?_
    refine x_cons ?_
    refine x_assign ?_
    refine e_bin ?_
    refine e_loc (by repeat first | assumption | exact upd_same | refine upd_ne (by decide) ?_) ?_
    refine e_int ?_; intro _
    refine i_add ?_; intro _
    refine store ?_
    refine x_cons ?_
    rw [or8 ok.c0 hbb.1 hbb.2, bitAnd_m16]
    have hstep : b6step S0 l[i] = ⟨(S0.lc * 256 + l[i].toNat) % 65536, (inn ((S0.lc * 256 + l[i].toNat) % 65536) (S0.lb + 8) S0.out).1, (inn ((S0.lc * 256 + l[i].toNat) % 65536) (S0.lb + 8) S0.out).2⟩ := rfl
    rw [hstep]
    have hc0 : 0 ≤ (S0.lc * 256 + (l[i].toNat : Int)) % 65536 := by omega
    have hc1 : (S0.lc * 256 + (l[i].toNat : Int)) % 65536 < 65536 := by omega
    generalize (S0.lc * 256 + (l[i].toNat : Int)) % 65536 = LC at hc0 hc1 ⊢
    have b0 := ok.b0
    have b1 := ok.b1
    skip
    refine x_while (I := fun n m' mu' fz' => ∃ vs k tc tb lb out, n = lb.toNat ∧ 0 ≤ lb ∧ lb ≤ 13 ∧ inn LC lb out = inn LC (S0.lb + 8) S0.out ∧ m' (Str.ofString "out") = some (.ref a) ∧ m' (Str.ofString "leftbits") = some (.int lb tb) ∧ m' (Str.ofString "leftchar") = some (.int LC tc) ∧
      m' (Str.ofString "newline") = some (.bool false) ∧ mu' = (a, listOf vs.toArray k) :: ex ∧ IntsAre vs out ∧ fz' = fz₁ ∧ 6 * out.length + lb.toNat ≤ 20000) (S0.lb + 8).toNat ?_ ?_
    · exact ⟨vs, n, _, _, S0.lb + 8, S0.out, rfl, by omega, by omega, rfl, by repeat first | assumption | exact upd_same | refine upd_ne (by decide) ?_, by repeat first | assumption | exact upd_same | refine upd_ne (by decide) ?_, by repeat first | assumption | exact upd_same | refine upd_ne (by decide) ?_, by repeat first | assumption | exact upd_same | refine upd_ne (by decide) ?_, rfl, h5, rfl, by omega⟩
    · rintro k m₂ mu₂ fz₂ ⟨vs2, k2, tc2, tb2, lb, out, rfl, l0, l1, hinn, g1, g2, g3, g4, rfl, g5, rfl, ol2⟩
      refine t_cmp ?_
      refine e_loc (by repeat first | assumption | exact upd_same | refine upd_ne (by decide) ?_) ?_
      refine e_int ?_; intro _
      refine c_ge ?_
      refine tr_bool ?_
      refine brD (fun hge => ?_) fun hge => ?_
      · refine x_cons ?_
        refine x_expr ?_
        refine e_append g1 (.head _) rfl rfl ?_
        refine e_sub ?_
        refine e_globV T hB ?_
        refine e_bin ?_
        refine e_bin ?_
        refine e_loc (by repeat first | assumption | exact upd_same | refine upd_ne (by decide) ?_) ?_
        refine e_bin ?_
        refine e_loc (by repeat first | assumption | exact upd_same | refine upd_ne (by decide) ?_) ?_
        refine e_int ?_; intro _
        refine i_sub ?_; intro _
        refine i_shr (by omega) fun t2 => ?_
        refine e_int ?_; intro _
        refine i_and ?_; intro _
        rw [bitAnd_m6]
        have hd6 : LC.fdiv (2 ^ (lb - 6).toNat) = LC / 2 ^ (lb - 6).toNat := Int.fdiv_eq_ediv_of_nonneg _ (Int.pow_nonneg (by decide))
        rw [hd6]
        refine p_byteAt (by rw [B64_len]; decide) (by omega) (by rw [B64_len]; omega) fun t3 => ?_
        have hv := g5.length
        refine p_append (pre := []) (by simp; omega) ?_
        refine x_cons ?_
        refine x_assign ?_
        refine e_bin ?_
        refine e_loc (by repeat first | assumption | exact upd_same | refine upd_ne (by decide) ?_) ?_
        refine e_int ?_; intro _
        refine i_sub ?_; intro _
        refine store ?_
        refine x_nil ?_
        refine fun s S => ?_
        refine wnext (mu := (a, listOf (vs2 ++ [_]).toArray (k2 + 1)) :: ex) (n' := (lb - 6).toNat) (by rw [← push_toArr]; exact S) (by omega) ⟨vs2 ++ [_], k2 + 1, tc2, _, lb - 6, out ++ [sx LC (lb - 6)], rfl, by omega, by omega, ?_, by repeat first | assumption | exact upd_same | refine upd_ne (by decide) ?_, by repeat first | assumption | exact upd_same | refine upd_ne (by decide) ?_, by repeat first | assumption | exact upd_same | refine upd_ne (by decide) ?_, by repeat first | assumption | exact upd_same | refine upd_ne (by decide) ?_, rfl, g5.append (.cons _ _ .nil), rfl, ?_⟩
        · rw [← hinn]; exact (inn_turn hge l1).symm
        · simp; omega
      · refine x_nil fun s S => ?_
        have hin2 : inn LC lb out = (lb, out) := by unfold inn; rw [if_pos (by omega)]
        rw [← hinn, hin2]
        exact TurnPost.next (mu := [(a, listOf vs2.toArray k2)]) S (Fz.le_refl _) ⟨vs2, k2, tc2, tb2, g1, g2, g3, g4, rfl, g5⟩
  · rintro m₁ mu₁ fz₁ hle ⟨vs, n, tc, tb, h1, h2, h3, h4, rfl, h5⟩
    rw [List.take_length] at h2 h3 h5
    rw [hb] at h2
    refine x_cons ?_
    refine x_if ?_
    refine t_cmp ?_
    refine e_loc (by repeat first | assumption | exact upd_same | refine upd_ne (by decide) ?_) ?_
    refine e_int ?_; intro _
    refine c_eq ?_
    refine tr_bool ?_
    refine brF (by decide) ?_
    refine x_cons ?_
    refine x_if ?_
    refine t_cmp ?_
    refine e_loc (by repeat first | assumption | exact upd_same | refine upd_ne (by decide) ?_) ?_
    refine e_int ?_; intro _
    refine c_eq ?_
    refine tr_bool ?_
    refine brF (by decide) ?_
    refine x_nil ?_
    refine x_nil ?_
    refine x_cons ?_
    refine x_if ?_
    refine t_name ?_
    refine e_loc (by repeat first | assumption | exact upd_same | refine upd_ne (by decide) ?_) ?_
    refine tr_bool ?_
    refine brF (by decide) ?_
    refine x_nil ?_
    refine x_cons ?_
    refine x_ret ?_
    refine e_call ?_
    refine e_bi (by assumption) (by rfl) ?_
    refine c_type ?_
    refine a_cons ?_
    refine e_loc (by repeat first | assumption | exact upd_same | refine upd_ne (by decide) ?_) ?_
    refine a_nil ?_
    refine p_bytes (.inr (.head _)) rfl rfl h5 hr (by have := h5.length; have := b6_len l; omega) hh fun t1 => ?_
    exact fun s S => Ret.mk S ⟨_, rfl⟩
theorem b2a_call {l : List UInt8} {Q : Value → Shared → Prop} (T : Tp mg mb fz) (hh : A.handled = none) (hd : A.depth < 899) (hl : l.length ≤ 1000) (hb : (b6 l).lb = 0) (hr : ∀ n ∈ (b6 l).out, 0 ≤ n ∧ n < 256)
    (h : ∀ t s, Fs B L m mu fz s → Q (.bytes (byteArr (b6 l).out) t) s) :
    ∀ s, Fs B L m mu fz s → wpAny (model prog w) A (call (.ref 50) [.bytes l.toArray t] [(Str.ofString "newline", .bool false)]) Q E s := by
  intro s S
  have hle0 := S.le
  revert s S
  refine call_fnD (binds := [(Str.ofString "data", .bytes l.toArray t), (Str.ofString "newline", .bool false)]) (fun v _ => ∃ t, v = .bytes (byteArr (b6 l).out) t) T T.f50 (by show A.depth < 1000; omega) (fun pm doc Q E s S h => ?_) (by rfl)
    (fun B' L' e _ => ?_) (fun v fz' hle hr s' S' => ?_)
  · exact wpAny_of_eq (a := [(Str.ofString "data", .bytes l.toArray t), (Str.ofString "newline", .bool false)]) (by rfl) h
  · subst e
    exact b2a_body (A := A.deeper _) T hh (by show A.depth + 1 < 900; omega) hl hb hr
  · obtain ⟨t', rfl⟩ := hr
    exact h _ _ (S'.less hle hle0)
end
-- text MB64b
section
variable {prog : Program} {w : World} {A : Around} {E : Value → Shared → Prop} {B : Bs} {L : Addr} {mg mb : Str → Option Value} {m : Str → Option Value} {mu : Led} {fz : Fz} {t u : Tok}
theorem b64_call {l : List UInt8} {Q : Value → Shared → Prop} (T : Tp mg mb fz) (hh : A.handled = none) (hd : A.depth < 898) (hl : l.length ≤ 1000) (hb : (b6 l).lb = 0) (hr : ∀ n ∈ (b6 l).out, 0 ≤ n ∧ n < 256)
    (h : ∀ t s, Fs B L m mu fz s → Q (.bytes (byteArr (b6 l).out) t) s) :
    ∀ s, Fs B L m mu fz s → wpAny (model prog w) A (call (.ref 58) [.bytes l.toArray t]) Q E s := by
  intro s S
  have hle0 := S.le
  revert s S
  refine call_fnD (kw := []) (binds := [(Str.ofString "s", .bytes l.toArray t), (Str.ofString "altchars", .none)]) (fun v _ => ∃ t, v = .bytes (byteArr (b6 l).out) t) T T.f58 (by show A.depth < 1000; omega) (fun pm doc Q E s S h => ?_) (by rfl)
    (fun B' L' e _ => ?_) (fun v fz' hle hr s' S' => ?_)
  · show wpAny _ _ (seqItems? (.ref 51) >>= _) _ _ s
    refine wpAny_bind (wpAny_seqItems (S.get T.d51) rfl ?_)
    exact wpAny_of_eq (a := [(Str.ofString "s", .bytes l.toArray t), (Str.ofString "altchars", .none)]) (by rfl) h
  · subst e
    unfold mOf
    simp only [List.foldl_cons, List.foldl_nil]
    refine x_cons ?_
    refine x_assign ?_
    refine e_callKw T.f50 (fun Q' h' => ?_) rfl ?_
    · refine e_glob (by assumption) (by rfl) ?_
      exact h'
    · refine a_cons ?_
      refine e_loc (by repeat first | assumption | exact upd_same | refine upd_ne (by decide) ?_) ?_
      refine a_nil ?_
      refine kw_cons ?_
      refine e_bool ?_
      refine kw_nil ?_
      refine l_fl ?_
      refine b2a_call T hh (by show A.depth + 1 < 899; omega) hl hb hr fun t1 => ?_
      refine store ?_
      refine x_cons ?_
      refine x_if ?_
      refine t_cmp ?_
      refine e_loc (by repeat first | assumption | exact upd_same | refine upd_ne (by decide) ?_) ?_
      refine e_none ?_
      refine p_isNotNone ?_
      refine tr_bool ?_
      refine brF (by decide) ?_
      refine x_nil ?_
      refine x_cons ?_
      refine x_ret ?_
      refine e_loc (by repeat first | assumption | exact upd_same | refine upd_ne (by decide) ?_) ?_
      exact fun s S => Ret.mk S ⟨_, rfl⟩
  · obtain ⟨t', rfl⟩ := hr
    exact h _ _ (S'.less hle hle0)
theorem c_fnD {env : Env} {pos : Pos} {a c k : Nat} {dV kV : Value} {e : Expr} {rest : List Expr} {Q : Value → Shared → Prop} (hf : FnAtD B.f0 a c k dV kV)
    (h : ∀ s, Fs B L m mu fz s → wpAny (model prog w) A (spliced (backTo pos (starEach (e :: rest) env))) (fun vs s₁ => Fl B.f0 s₁ ∧ wpAny (model prog w) A (call (.ref a) vs) Q E s₁) E s)
    (he : starEach (e :: rest) env = (false, eval e env) :: starEach rest env := by rfl) :
    ∀ s, Fs B L m mu fz s → wpAny (model prog w) A (callWith pos (.ref a) [] (backTo pos (starEach (e :: rest) env)) []) Q E s := fun s S => by
  obtain ⟨o, pm, doc, ho, hd, _⟩ := hf
  exact callWith_def hd (wpAny_mono (h s S) (fun vs s₁ h₁ => ⟨h₁.1 _ _ ho, h₁.2⟩) fun _ _ x => x) he
theorem m_translate {b : Array UInt8} {pos : Pos} {x : Sem Value} {tb : Array UInt8} {Q : Value → Shared → Prop} (hb : b.size ≤ 1000000) (htb : tb.size = 256)
    (h : ∀ s, Fs B L m mu fz s → wpAny (model prog w) A x (fun v s₁ => (∃ u, v = .bytes tb u) ∧ ∀ t' tk, Q (.bytes (trans tb b) t') { s₁ with toks := tk }) E s) :
    ∀ s, Fs B L m mu fz s → MethodOnS prog w A E "translate" (.bytes b t) pos [(false, x)] Q s := fun s S => by
  refine ⟨"bytes", "bytes.translate", FB.plainAttrs_bytes, tr_slot, tr_type, typeIs_bytes _ _ _, (fun a e => nomatch e), ?_⟩
  refine Calls.callWith_builtin rfl (Calls.evalArgs_plain (Calls.spliced_cons (wpAny_mono (h s S) (fun v s₁ h₁ => Calls.spliced_nil ?_) fun _ _ e => e)))
  obtain ⟨⟨u, rfl⟩, hq⟩ := h₁
  exact call_meets tr_slot (typeIs_bytes _ _ _) tr_entry (tr_args _ _) (tr_meets b tb t u htb hb) fun t' tk => hq t' tk
theorem url_call {l : List UInt8} {Q : Value → Shared → Prop} (T : Tp mg mb fz) (hh : A.handled = none) (hd : A.depth < 897) (hl : l.length ≤ 1000) (hb : (b6 l).lb = 0) (hr : ∀ n ∈ (b6 l).out, 0 ≤ n ∧ n < 256)
    (h : ∀ t s, Fs B L m mu fz s → Q (.bytes (trans UT.toArray (byteArr (b6 l).out)) t) s) :
    ∀ s, Fs B L m mu fz s → wpAny (model prog w) A (call (.ref 65) [.bytes l.toArray t]) Q E s := by
  intro s S
  have hle0 := S.le
  revert s S
  refine call_fn (binds := [(Str.ofString "s", .bytes l.toArray t)]) (fun v _ => ∃ t, v = .bytes (trans UT.toArray (byteArr (b6 l).out)) t) T T.f65 (by show A.depth < 1000; omega) (fun pm doc => rfl) (by rfl)
    (fun B' L' e _ => ?_) (fun v fz' hle hr s' S' => ?_)
  · subst e
    unfold mOf
    simp only [List.foldl_cons, List.foldl_nil]
    obtain ⟨tU, hU⟩ := T.utr
    refine x_cons ?_
    refine x_ret ?_
    refine e_meth1 ?_
    refine e_call ?_
    refine e_glob (by assumption) (by rfl) ?_
    refine c_fnD T.f58 ?_
    refine a_cons ?_
    refine e_loc (by repeat first | assumption | exact upd_same | refine upd_ne (by decide) ?_) ?_
    refine a_nil ?_
    refine l_fl ?_
    refine b64_call T hh (by show A.depth + 1 < 898; omega) hl hb hr fun t1 => ?_
    have hz : (byteArr (b6 l).out).size ≤ 1000000 := by
      have := b6_len l
      simp [byteArr]; omega
    refine m_translate (tb := UT.toArray) hz (by decide +kernel) ?_
    refine e_globV T hU ?_
    exact fun s S => ⟨⟨_, rfl⟩, fun t' tk => Ret.mk S.toks ⟨_, rfl⟩⟩
  · obtain ⟨t', rfl⟩ := hr
    exact h _ _ (S'.less hle hle0)
end
-- text PL1
section
open PySem PySem.W PyProof.Rows
/-- the sign to the base 64 -/
noncomputable def c64 (f : Int) : Int := ((B64.getD f.toNat 0).toNat : Nat)
theorem sx_eq {lc k f : Int} (h : (lc / 2 ^ k.toNat) % 64 = f) : sx lc k = c64 f := by unfold sx c64; rw [h]
theorem b6_three (c : Int) (o : List Int) (x y z : UInt8) (h0 : 0 ≤ c) (h1 : c < 65536) :
    ∃ c', 0 ≤ c' ∧ c' < 65536 ∧ [x, y, z].foldl b6step ⟨c, 0, o⟩ = ⟨c', 0, o ++ [c64 (x.toNat / 4), c64 (x.toNat % 4 * 16 + y.toNat / 16), c64 (y.toNat % 16 * 4 + z.toNat / 64), c64 (z.toNat % 64)]⟩ := by
  have hx := x.toNat_lt
  have hy := y.toNat_lt
  have hz := z.toNat_lt
  have e1 : b6step ⟨c, 0, o⟩ x = ⟨(c * 256 + x.toNat) % 65536, 2, o ++ [c64 (x.toNat / 4)]⟩ := by
    unfold b6step
    show B6.mk _ (inn _ (0 + 8) o).1 (inn _ (0 + 8) o).2 = _
    have e : inn ((c * 256 + (x.toNat : Int)) % 65536) (0 + 8) o = (2, o ++ [c64 (x.toNat / 4)]) := by
      unfold inn
      rw [if_neg (by decide), if_pos (by decide)]
      rw [sx_eq (f := x.toNat / 4) (by show _ / 4 % 64 = _; omega)]
      rfl
    rw [e]
  obtain ⟨c1, hc1⟩ : ∃ c1, c1 = (c * 256 + (x.toNat : Int)) % 65536 := ⟨_, rfl⟩
  rw [← hc1] at e1
  have e2 : b6step ⟨c1, 2, o ++ [c64 (x.toNat / 4)]⟩ y = ⟨(c1 * 256 + y.toNat) % 65536, 4, o ++ [c64 (x.toNat / 4)] ++ [c64 (x.toNat % 4 * 16 + y.toNat / 16)]⟩ := by
    unfold b6step
    show B6.mk _ (inn _ (2 + 8) _).1 (inn _ (2 + 8) _).2 = _
    have e : inn ((c1 * 256 + (y.toNat : Int)) % 65536) (2 + 8) (o ++ [c64 (x.toNat / 4)]) = (4, o ++ [c64 (x.toNat / 4)] ++ [c64 (x.toNat % 4 * 16 + y.toNat / 16)]) := by
      unfold inn
      rw [if_neg (by decide), if_pos (by decide)]
      rw [sx_eq (f := x.toNat % 4 * 16 + y.toNat / 16) (by show _ / 16 % 64 = _; omega)]
      rfl
    rw [e]
  obtain ⟨c2, hc2⟩ : ∃ c2, c2 = (c1 * 256 + (y.toNat : Int)) % 65536 := ⟨_, rfl⟩
  rw [← hc2] at e2
  have e3 : b6step ⟨c2, 4, o ++ [c64 (x.toNat / 4)] ++ [c64 (x.toNat % 4 * 16 + y.toNat / 16)]⟩ z = ⟨(c2 * 256 + z.toNat) % 65536, 0, o ++ [c64 (x.toNat / 4)] ++ [c64 (x.toNat % 4 * 16 + y.toNat / 16)] ++ [c64 (y.toNat % 16 * 4 + z.toNat / 64)] ++ [c64 (z.toNat % 64)]⟩ := by
    unfold b6step
    show B6.mk _ (inn _ (4 + 8) _).1 (inn _ (4 + 8) _).2 = _
    generalize o ++ [c64 (x.toNat / 4)] ++ [c64 (x.toNat % 4 * 16 + y.toNat / 16)] = o'
    have e : inn ((c2 * 256 + (z.toNat : Int)) % 65536) (4 + 8) o' = (0, o' ++ [c64 (y.toNat % 16 * 4 + z.toNat / 64)] ++ [c64 (z.toNat % 64)]) := by
      unfold inn
      rw [if_neg (by decide), if_neg (by decide)]
      rw [sx_eq (k := 4 + 8 - 6) (f := y.toNat % 16 * 4 + z.toNat / 64) (by show _ / 64 % 64 = _; omega)]
      rw [sx_eq (k := 4 + 8 - 12) (f := z.toNat % 64) (by show _ / 1 % 64 = _; omega)]
      rfl
    rw [e]
  refine ⟨(c2 * 256 + z.toNat) % 65536, by omega, by omega, ?_⟩
  rw [List.foldl_cons, e1, List.foldl_cons, e2, List.foldl_cons, e3, List.foldl_nil]
  simp
/-- the octets of four figures -/
noncomputable def tri (f : List Int) (p : Nat) : List Int :=
  [f.getD p 0 * 4 + f.getD (p + 1) 0 / 16, f.getD (p + 1) 0 % 16 * 16 + f.getD (p + 2) 0 / 4, f.getD (p + 2) 0 % 4 * 64 + f.getD (p + 3) 0]
noncomputable def octs (f : List Int) : List Int := tri f 0 ++ tri f 4
noncomputable def by_ (n : Int) : UInt8 := n.toNat.toUInt8
theorem by_toNat {n : Int} (h0 : 0 ≤ n) (h1 : n < 256) : ((by_ n).toNat : Int) = n := by
  unfold by_
  have e : n.toNat.toUInt8.toNat = n.toNat % 256 := by simp
  rw [e, Nat.mod_eq_of_lt (by omega)]; omega
theorem b6_octs (f0 f1 f2 f3 f4 f5 f6 f7 : Int) (h : ∀ x ∈ [f0, f1, f2, f3, f4, f5, f6, f7], 0 ≤ x ∧ x < 64) :
    (b6 ((octs [f0, f1, f2, f3, f4, f5, f6, f7]).map by_)).lb = 0 ∧ (b6 ((octs [f0, f1, f2, f3, f4, f5, f6, f7]).map by_)).out = [f0, f1, f2, f3, f4, f5, f6, f7].map c64 := by
  have g0 := h f0 (by simp)
  have g1 := h f1 (by simp)
  have g2 := h f2 (by simp)
  have g3 := h f3 (by simp)
  have g4 := h f4 (by simp)
  have g5 := h f5 (by simp)
  have g6 := h f6 (by simp)
  have g7 := h f7 (by simp)
  have e : (octs [f0, f1, f2, f3, f4, f5, f6, f7]).map by_ = [by_ (f0 * 4 + f1 / 16), by_ (f1 % 16 * 16 + f2 / 4), by_ (f2 % 4 * 64 + f3)] ++ [by_ (f4 * 4 + f5 / 16), by_ (f5 % 16 * 16 + f6 / 4), by_ (f6 % 4 * 64 + f7)] := rfl
  obtain ⟨c, h0, h1, e1⟩ := b6_three 0 [] (by_ (f0 * 4 + f1 / 16)) (by_ (f1 % 16 * 16 + f2 / 4)) (by_ (f2 % 4 * 64 + f3)) (by decide) (by decide)
  obtain ⟨c', _, _, e2⟩ := b6_three c ([] ++ [c64 ((by_ (f0 * 4 + f1 / 16)).toNat / 4), c64 ((by_ (f0 * 4 + f1 / 16)).toNat % 4 * 16 + (by_ (f1 % 16 * 16 + f2 / 4)).toNat / 16), c64 ((by_ (f1 % 16 * 16 + f2 / 4)).toNat % 16 * 4 + (by_ (f2 % 4 * 64 + f3)).toNat / 64), c64 ((by_ (f2 % 4 * 64 + f3)).toNat % 64)]) (by_ (f4 * 4 + f5 / 16)) (by_ (f5 % 16 * 16 + f6 / 4)) (by_ (f6 % 4 * 64 + f7)) h0 h1
  rw [e]
  unfold b6
  rw [List.foldl_append, e1, e2]
  refine ⟨rfl, ?_⟩
  show _ = [c64 f0, c64 f1, c64 f2, c64 f3, c64 f4, c64 f5, c64 f6, c64 f7]
  rw [by_toNat (n := f0 * 4 + f1 / 16) (by omega) (by omega), by_toNat (n := f1 % 16 * 16 + f2 / 4) (by omega) (by omega), by_toNat (n := f2 % 4 * 64 + f3) (by omega) (by omega),
    by_toNat (n := f4 * 4 + f5 / 16) (by omega) (by omega), by_toNat (n := f5 % 16 * 16 + f6 / 4) (by omega) (by omega), by_toNat (n := f6 % 4 * 64 + f7) (by omega) (by omega)]
  simp only [List.nil_append, List.cons_append, List.cons.injEq, and_true]
  refine ⟨?_, ?_, ?_, ?_, ?_, ?_, ?_, ?_⟩ <;> (congr 1; omega)
/-- figures and signs of the digits -/
noncomputable def fig (d : Int) : Int := ([62, 63, 26] : List Int).getD d.toNat 0
noncomputable def sgn (d : Int) : UInt8 := ([45, 95, 97] : List UInt8).getD d.toNat 0
noncomputable def signs (ds : List Int) : List UInt8 := ds.map sgn
noncomputable def D3 (ds : List Int) : Prop := ∀ d ∈ ds, 0 ≤ d ∧ d < 3
theorem d3_cases {d : Int} (h : 0 ≤ d ∧ d < 3) : d = 0 ∨ d = 1 ∨ d = 2 := by omega
theorem fig_in {d : Int} (h : 0 ≤ d ∧ d < 3) : 0 ≤ fig d ∧ fig d < 64 := by
  rcases d3_cases h with rfl | rfl | rfl <;> decide
theorem sgn_of {d : Int} (h : 0 ≤ d ∧ d < 3) : (UT.toArray.getD (by_ (c64 (fig d))).toNat (by_ (c64 (fig d)))) = sgn d := by
  rcases d3_cases h with rfl | rfl | rfl <;> decide +kernel
theorem c64_in (f : Int) : 0 ≤ c64 f ∧ c64 f < 256 := by
  unfold c64
  have := (B64.getD f.toNat 0).toNat_lt
  omega
theorem written_plain {ds : List Int} (h8 : ds.length = 8) (h3 : D3 ds) :
    (b6 ((octs (ds.map fig)).map by_)).lb = 0 ∧ (∀ n ∈ (b6 ((octs (ds.map fig)).map by_)).out, 0 ≤ n ∧ n < 256) ∧ trans UT.toArray (byteArr (b6 ((octs (ds.map fig)).map by_)).out) = (signs ds).toArray := by
  obtain ⟨d0, d1, d2, d3, d4, d5, d6, d7, rfl⟩ : ∃ d0 d1 d2 d3 d4 d5 d6 d7, ds = [d0, d1, d2, d3, d4, d5, d6, d7] := by
    match ds, h8 with
    | [d0, d1, d2, d3, d4, d5, d6, d7], _ => exact ⟨d0, d1, d2, d3, d4, d5, d6, d7, rfl⟩
  have h := b6_octs (fig d0) (fig d1) (fig d2) (fig d3) (fig d4) (fig d5) (fig d6) (fig d7) (by
    intro x hx
    have : x ∈ [d0, d1, d2, d3, d4, d5, d6, d7].map fig := hx
    obtain ⟨d, hd, rfl⟩ := List.mem_map.mp this
    exact fig_in (h3 d hd))
  refine ⟨h.1, ?_, ?_⟩
  · show ∀ n ∈ (b6 ((octs [fig d0, fig d1, fig d2, fig d3, fig d4, fig d5, fig d6, fig d7]).map by_)).out, 0 ≤ n ∧ n < 256
    rw [h.2]
    intro n hn
    obtain ⟨f, _, rfl⟩ := List.mem_map.mp hn
    exact c64_in f
  · show trans UT.toArray (byteArr (b6 ((octs [fig d0, fig d1, fig d2, fig d3, fig d4, fig d5, fig d6, fig d7]).map by_)).out) = _
    rw [h.2]
    unfold trans byteArr signs
    have e : ([d0, d1, d2, d3, d4, d5, d6, d7].map fig).map c64 = [fig d0, fig d1, fig d2, fig d3, fig d4, fig d5, fig d6, fig d7].map c64 := rfl
    rw [← e]
    simp only [List.map_toArray, List.map_map]
    congr 1
    apply List.map_congr_left
    intro d hd
    exact sgn_of (h3 d hd)
theorem octs_in {ds : List Int} (h3 : D3 ds) : ∀ n ∈ octs (ds.map fig), 0 ≤ n ∧ n < 256 := by
  have hf : ∀ i, 0 ≤ (ds.map fig).getD i 0 ∧ (ds.map fig).getD i 0 < 64 := by
    intro i
    rw [List.getD_eq_getElem?_getD]
    cases e : (ds.map fig)[i]? with
    | none => simp
    | some x =>
      obtain ⟨d, hd, rfl⟩ := List.mem_map.mp (List.mem_of_getElem? e)
      exact fig_in (h3 d hd)
  intro n hn
  unfold octs tri at hn
  have h0 := hf 0; have h1 := hf 1; have h2 := hf 2; have h3 := hf 3; have h4 := hf 4; have h5 := hf 5; have h6 := hf 6; have h7 := hf 7
  simp only [List.cons_append, List.nil_append, List.mem_cons, List.not_mem_nil, or_false, Nat.zero_add, Nat.reduceAdd] at hn
  rcases hn with rfl | rfl | rfl | rfl | rfl | rfl <;> omega
end
-- text ML1
section
variable {prog : Program} {w : World} {A : Around} {E : Value → Shared → Prop} {B : Bs} {L : Addr} {mg mb : Str → Option Value} {m : Str → Option Value} {mu : Led} {fz : Fz} {t u : Tok}
theorem written_body {v : Value} {ds : List Int} (T : Tp mg mb B.f0) {k0 : Nat} (hA : Rm A (k0 + 4)) (hv : (TList TInt).R B.f0 v ds) (h8 : ds.length = 8) (h3 : D3 ds) :
    ∀ s, Fs B L (mOf [(Str.ofString "digits", v)]) [] B.f0 s →
    wpAny (model prog w) A (execs (sBody (topS 15)) (envOf (sName (topS 15)) (sScope (topS 15)) L 77 (.ref 76))) (Ret B L fun v _ => ∃ t, v = .bytes (signs ds).toArray t) NE s := by
  unfold mOf
  simp only [List.foldl_cons, List.foldl_nil]
  obtain ⟨a, n, vs, rfl, ha, hal⟩ := hv
  refine x_cons ?_
  refine x_assignComp ?_
  refine e_loc (by repeat first | assumption | exact upd_same | refine upd_ne (by decide) ?_) ?_
  refine comp_list TInt TInt fig hA.hh ha hal (by omega) ?_ ?_
  · intro d v fz₁ ex B' C mC hf0 hle0 hfs hd hr hle
    obtain ⟨t1, rfl⟩ := hr
    refine e_sub ?_
    refine e_list ?_
    refine a_cons ?_
    refine e_int ?_; intro _
    refine a_cons ?_
    refine e_int ?_; intro _
    refine a_cons ?_
    refine e_int ?_; intro _
    refine a_nil ?_
    refine p_newListF (by simp) fun a' => ?_
    refine e_loc (by repeat first | assumption | exact upd_same | refine upd_ne (by decide) ?_) ?_
    have hd3 := h3 d hd
    rename_i ta tb tc
    obtain ⟨tk, ht⟩ : ∃ tk, [Value.int 62 ta, Value.int 63 tb, Value.int 26 tc][d.toNat]? = some (.int (fig d) tk) := by
      rcases d3_cases hd3 with rfl | rfl | rfl <;> exact ⟨_, rfl⟩
    refine p_item (.inl Fz.add_self) rfl rfl hd3.1 ht (by simp) ?_
    exact fun s S => ⟨_, Fz.le_add, ⟨_, rfl⟩, S⟩
  · intro D acc k fz' C oC mC hle hacc hC
    refine rr_use (by assumption) ?_
    refine x_cons ?_
    refine x_assign ?_
    refine e_list ?_
    refine a_nil ?_
    refine fzL ?_
    skip
    refine p_newList (by simp) fun o => ?_
    refine store ?_
    refine x_cons ?_
    refine x_for0 ?_
    refine e_list ?_
    refine a_cons ?_
    refine e_int ?_; intro _
    refine a_cons ?_
    refine e_int ?_; intro _
    refine a_nil ?_
    refine p_newListF (by simp) fun pl => ?_
    skip
    rename_i t0 t4
    have hF : (TList TInt).R ((fz'.add D (listOf acc.toArray k)).add pl (listOf #[Value.int 0 t0, Value.int 4 t4] 0)) (.ref D) (ds.map fig) :=
      ⟨D, k, acc, rfl, .inl Fz.add_self, hacc.mono fun _ _ r => TInt.mono (Fz.le_trans Fz.le_add Fz.le_add) r⟩
    refine for_list (vs := [Value.int 0 t0, Value.int 4 t4]) (J := fun i m' mu' fz' => ∃ os k, m' (Str.ofString "octets") = some (.ref o) ∧ m' (Str.ofString "figures") = some (.ref D) ∧ mu' = [(o, listOf os.toArray k)] ∧
      IntsAre os (if i = 0 then [] else if i = 1 then tri (ds.map fig) 0 else octs (ds.map fig))) Fz.add_self rfl rfl hA.hh ?_ ?_ ?_
    · exact ⟨[], 0, by repeat first | assumption | exact upd_same | refine upd_ne (by decide) ?_, by repeat first | assumption | exact upd_same | refine upd_ne (by decide) ?_, rfl, .nil⟩
    · rintro i hi m₁ mu₁ fz₁ ex hle1 ⟨os, k1, g1, g2, rfl, g3⟩
      have hF1 := (TList TInt).mono hle1 hF
      have hi2 : i < 2 := hi
      obtain ⟨tp, hp⟩ : ∃ tp, [Value.int 0 t0, Value.int 4 t4][i] = .int ((4 * i : Nat) : Int) tp := by
        match i, hi2 with
        | 0, _ => exact ⟨_, rfl⟩
        | 1, _ => exact ⟨_, rfl⟩
      rw [hp]
      have len : (ds.map fig).length = 8 := by simp [h8]
      have hlo : os.length ≤ 6 := by
        rw [g3.length]
        match i, hi2 with
        | 0, _ => simp
        | 1, _ => simp [tri]
      have hgo : (if i + 1 = 0 then [] else if i + 1 = 1 then tri (ds.map fig) 0 else octs (ds.map fig)) = (if i = 0 then [] else if i = 1 then tri (ds.map fig) 0 else octs (ds.map fig)) ++ tri (ds.map fig) (4 * i) := by
        match i, hi2 with
        | 0, _ => rfl
        | 1, _ => rfl
      generalize (if i = 0 then [] else if i = 1 then tri (ds.map fig) 0 else octs (ds.map fig)) = o0 at g3 hgo
      generalize ds.map fig = F at hF1 len hgo
      refine x_cons ?_
      refine x_expr ?_
      refine e_appendL (pre := []) (l := o) (by repeat first | assumption | exact upd_same | refine upd_ne (by decide) ?_) ?_
      refine e_bin ?_
      refine e_bin ?_
      refine e_sub ?_
      refine e_loc (by repeat first | assumption | exact upd_same | refine upd_ne (by decide) ?_) ?_
      refine e_loc (by repeat first | assumption | exact upd_same | refine upd_ne (by decide) ?_) ?_
      refine p_itemI hF1 (4 * i) rfl (by omega) (by omega) fun t1 => ?_
      refine e_int ?_; intro _
      refine i_mul (IntMulOk.of_right (by decide)) ?_; intro _
      refine e_bin ?_
      refine e_sub ?_
      refine e_loc (by repeat first | assumption | exact upd_same | refine upd_ne (by decide) ?_) ?_
      refine e_bin ?_
      refine e_loc (by repeat first | assumption | exact upd_same | refine upd_ne (by decide) ?_) ?_
      refine e_int ?_; intro _
      refine i_add ?_; intro _
      refine p_itemI hF1 (4 * i + 1) (by omega) (by omega) (by omega) fun t2 => ?_
      refine e_int ?_; intro _
      refine i_divP (by decide) (by decide) ?_; intro _
      refine i_add ?_; intro _
      refine p_app (pre := []) (by omega) ?_
      refine x_cons ?_
      refine x_expr ?_
      refine e_appendL (pre := []) (l := o) (by repeat first | assumption | exact upd_same | refine upd_ne (by decide) ?_) ?_
      refine e_bin ?_
      refine e_bin ?_
      refine e_bin ?_
      refine e_sub ?_
      refine e_loc (by repeat first | assumption | exact upd_same | refine upd_ne (by decide) ?_) ?_
      refine e_bin ?_
      refine e_loc (by repeat first | assumption | exact upd_same | refine upd_ne (by decide) ?_) ?_
      refine e_int ?_; intro _
      refine i_add ?_; intro _
      refine p_itemI hF1 (4 * i + 1) (by omega) (by omega) (by omega) fun t3 => ?_
      refine e_int ?_; intro _
      refine i_modP (by decide) ?_; intro _
      refine e_int ?_; intro _
      refine i_mul (IntMulOk.of_right (by decide)) ?_; intro _
      refine e_bin ?_
      refine e_sub ?_
      refine e_loc (by repeat first | assumption | exact upd_same | refine upd_ne (by decide) ?_) ?_
      refine e_bin ?_
      refine e_loc (by repeat first | assumption | exact upd_same | refine upd_ne (by decide) ?_) ?_
      refine e_int ?_; intro _
      refine i_add ?_; intro _
      refine p_itemI hF1 (4 * i + 2) (by omega) (by omega) (by omega) fun t5 => ?_
      refine e_int ?_; intro _
      refine i_divP (by decide) (by decide) ?_; intro _
      refine i_add ?_; intro _
      refine p_app (pre := []) (by simp; omega) ?_
      refine x_cons ?_
      refine x_expr ?_
      refine e_appendL (pre := []) (l := o) (by repeat first | assumption | exact upd_same | refine upd_ne (by decide) ?_) ?_
      refine e_bin ?_
      refine e_bin ?_
      refine e_bin ?_
      refine e_sub ?_
      refine e_loc (by repeat first | assumption | exact upd_same | refine upd_ne (by decide) ?_) ?_
      refine e_bin ?_
      refine e_loc (by repeat first | assumption | exact upd_same | refine upd_ne (by decide) ?_) ?_
      refine e_int ?_; intro _
      refine i_add ?_; intro _
      refine p_itemI hF1 (4 * i + 2) (by omega) (by omega) (by omega) fun t6 => ?_
      refine e_int ?_; intro _
      refine i_modP (by decide) ?_; intro _
      refine e_int ?_; intro _
      refine i_mul (IntMulOk.of_right (by decide)) ?_; intro _
      refine e_sub ?_
      refine e_loc (by repeat first | assumption | exact upd_same | refine upd_ne (by decide) ?_) ?_
      refine e_bin ?_
      refine e_loc (by repeat first | assumption | exact upd_same | refine upd_ne (by decide) ?_) ?_
      refine e_int ?_; intro _
      refine i_add ?_; intro _
      refine p_itemI hF1 (4 * i + 3) (by omega) (by omega) (by omega) fun t7 => ?_
      refine i_add ?_; intro _
      refine p_app (pre := []) (by simp; omega) ?_
      refine x_nil ?_
      refine fun s S => TurnPost.next (mu := [(o, _)]) S (Fz.le_refl _) ⟨_, _, by repeat first | assumption | exact upd_same | refine upd_ne (by decide) ?_, by repeat first | assumption | exact upd_same | refine upd_ne (by decide) ?_, rfl, ?_⟩
      rw [hgo]
      have ea : ∀ x y z : Int, o0 ++ [x, y, z] = ((o0 ++ [x]) ++ [y]) ++ [z] := by intro x y z; simp
      unfold tri
      rw [ea]
      exact ((g3.append (.cons _ _ .nil)).append (.cons _ _ .nil)).append (.cons _ _ .nil)
    · rintro m₁ mu₁ fz₁ hle1 ⟨os, k1, g1, g2, rfl, g3⟩
      have g3' : IntsAre os (octs (ds.map fig)) := g3
      have hl : os.length = 6 := by rw [g3'.length]; rfl
      have T1 := (T.mono hle).mono (Fz.le_trans (Fz.le_trans Fz.le_add Fz.le_add) hle1)
      have hw := written_plain h8 h3
      refine x_cons ?_
      refine x_ret ?_
      refine e_call ?_
      refine e_glob (by assumption) (by rfl) ?_
      refine c_fn T.f65 ?_
      refine a_cons ?_
      refine e_call ?_
      refine e_bi (by assumption) (by rfl) ?_
      refine c_type ?_
      refine a_cons ?_
      refine e_loc (by repeat first | assumption | exact upd_same | refine upd_ne (by decide) ?_) ?_
      refine a_nil ?_
      refine p_bytes (.inr (.head _)) rfl rfl g3' (octs_in h3) (by omega) hA.hh fun t1 => ?_
      refine a_nil ?_
      refine l_fl ?_
      refine url_call (l := (octs (ds.map fig)).map by_) T1 hA.hh (by have := hA.hd; omega) (by simp [octs, tri]) hw.1 hw.2.1 fun t2 => ?_
      rw [hw.2.2]
      exact fun s S => Ret.mk S ⟨_, rfl⟩
theorem written_call {v : Value} {ds : List Int} {Q : Value → Shared → Prop} (T : Tp mg mb fz) {k0 : Nat} (hA : Rm A (k0 + 5)) (hv : (TList TInt).R fz v ds) (h8 : ds.length = 8) (h3 : D3 ds)
    (h : ∀ t s, Fs B L m mu fz s → Q (.bytes (signs ds).toArray t) s) :
    ∀ s, Fs B L m mu fz s → wpAny (model prog w) A (call (.ref 77) [v]) Q E s := by
  intro s S
  have hle0 := S.le
  revert s S
  refine call_fn (binds := [(Str.ofString "digits", v)]) (fun v _ => ∃ t, v = .bytes (signs ds).toArray t) T T.f77 hA.rl (fun pm doc => rfl) (by rfl)
    (fun B' L' e _ => ?_) (fun v fz' hle hr s' S' => ?_)
  · subst e
    exact written_body T hA.dn hv h8 h3
  · obtain ⟨t', rfl⟩ := hr
    exact h _ _ (S'.less hle hle0)
end
-- text ML2
section
variable {prog : Program} {w : World} {A : Around} {E : Value → Shared → Prop} {B : Bs} {L : Addr} {mg mb : Str → Option Value} {m : Str → Option Value} {mu : Led} {fz : Fz} {t u : Tok}
theorem signs_call {v : Value} {ds : List Int} {Q : Value → Shared → Prop} (T : Tp mg mb fz) {k0 : Nat} (hA : Rm A (k0 + 2)) (hv : (TList TInt).R fz v ds) (hz : ds.length ≤ 1000) (h3 : D3 ds)
    (h : ∀ t s, Fs B L m mu fz s → Q (.bytes (signs ds).toArray t) s) :
    ∀ s, Fs B L m mu fz s → wpAny (model prog w) A (call (.ref 82) [v]) Q E s := by
  intro s S
  have hle0 := S.le
  revert s S
  refine call_fn (binds := [(Str.ofString "digits", v)]) (fun v _ => ∃ t, v = .bytes (signs ds).toArray t) T T.f82 hA.rl (fun pm doc => rfl) (by rfl)
    (fun B' L' e _ => ?_) (fun v fz' hle hr s' S' => ?_)
  · subst e
    obtain ⟨a, n, vs, rfl, ha, hal⟩ := hv
    unfold mOf
    simp only [List.foldl_cons, List.foldl_nil]
    refine x_cons ?_
    refine x_ret ?_
    refine e_call ?_
    refine e_bi (by assumption) (by rfl) ?_
    refine c_type ?_
    refine a_cons ?_
    refine e_comp ?_
    refine e_loc (by repeat first | assumption | exact upd_same | refine upd_ne (by decide) ?_) ?_
    refine comp_list TInt TInt (fun d => ((sgn d).toNat : Int)) hA.hh ha hal (by omega) ?_ ?_
    · intro d v fz₁ ex B' C mC hf0 hle0 hfs hd hr hle
      obtain ⟨t1, rfl⟩ := hr
      refine e_sub ?_
      refine e_list ?_
      refine a_cons ?_
      refine e_int ?_; intro _
      refine a_cons ?_
      refine e_int ?_; intro _
      refine a_cons ?_
      refine e_int ?_; intro _
      refine a_nil ?_
      refine p_newListF (by simp) fun a' => ?_
      refine e_loc (by repeat first | assumption | exact upd_same | refine upd_ne (by decide) ?_) ?_
      have hd3 := h3 d hd
      rename_i ta tb tc
      obtain ⟨tk, ht⟩ : ∃ tk, [Value.int 45 ta, Value.int 95 tb, Value.int 97 tc][d.toNat]? = some (.int ((sgn d).toNat : Int) tk) := by
        rcases d3_cases hd3 with rfl | rfl | rfl <;> exact ⟨_, rfl⟩
      refine p_item (.inl Fz.add_self) rfl rfl hd3.1 ht (by simp) ?_
      exact fun s S => ⟨_, Fz.le_add, ⟨_, rfl⟩, S⟩
    · intro D acc k fz' C oC mC hle hacc hC
      refine rr_none (by assumption) ?_
      refine a_nil ?_
      have hl := hacc.length
      refine p_bytes (.inr (.head _)) rfl rfl hacc.ints ?_ (by simp at hl; omega) hA.hh fun t1 => ?_
      · intro n hn
        obtain ⟨d, _, rfl⟩ := List.mem_map.mp hn
        have := (sgn d).toNat_lt
        omega
      · have e : byteArr (ds.map fun d => ((sgn d).toNat : Int)) = (signs ds).toArray := by
          unfold byteArr signs
          rw [List.map_map]
          congr 1
          apply List.map_congr_left
          intro d _
          simp
        rw [e]
        exact fun s S => Ret.mk S ⟨_, rfl⟩
  · obtain ⟨t', rfl⟩ := hr
    exact h _ _ (S'.less hle hle0)
/-- the pairs of neighbours, the lesser first -/
noncomputable def pairU (p : UInt8 × UInt8) : Int × Int := (if (p.2.toNat : Int) < p.1.toNat then (p.2.toNat : Int) else p.1.toNat, if (p.2.toNat : Int) > p.1.toNat then (p.2.toNat : Int) else p.1.toNat)
noncomputable def pairsOf (l : List UInt8) : List (Int × Int) := (l.zip (l.drop 1)).map pairU
noncomputable abbrev TPr : Ty (Int × Int) := TTwo TInt TInt
theorem pairs_call {l : List UInt8} {Q : Value → Shared → Prop} (T : Tp mg mb fz) {k0 : Nat} (hA : Rm A (k0 + 2)) (hz : l.length ≤ 1000)
    (h : ∀ c vs k fz', fz.le fz' → Al (TPr.R fz') vs (pairsOf l) → ∀ s, Fs B L m ((c, listOf vs.toArray k) :: mu) fz' s → Q (.ref c) s) :
    ∀ s, Fs B L m mu fz s → wpAny (model prog w) A (call (.ref 99) [.bytes l.toArray t]) Q E s := by
  refine callO_fn (ex := []) (binds := [(Str.ofString "word", .bytes l.toArray t)]) (fun v mu fz => ∃ c vs k, v = .ref c ∧ mu = [(c, listOf vs.toArray k)] ∧ Al (TPr.R fz) vs (pairsOf l)) T T.f99 hA.rl (fun pm doc => rfl) (by rfl)
    (fun B' L' e _ => ?_) (fun v mu' fz' hle hr => ?_)
  · subst e
    unfold mOf
    simp only [List.foldl_cons, List.foldl_nil]
    refine x_cons ?_
    refine x_ret ?_
    refine e_comp ?_
    refine e_call ?_
    refine e_bi (by assumption) (by rfl) ?_
    refine c_type ?_
    refine a_cons ?_
    refine e_loc (by repeat first | assumption | exact upd_same | refine upd_ne (by decide) ?_) ?_
    refine a_cons ?_
    refine e_sub ?_
    refine e_loc (by repeat first | assumption | exact upd_same | refine upd_ne (by decide) ?_) ?_
    refine e_slice ?_
    refine ep_some ?_
    refine e_int ?_; intro _
    refine ep_none ?_
    refine ep_none ?_
    refine p_slObj ?_; intro _
    refine p_cutB (lo := some (1 : Nat)) (hi := none) Fz.add_self (.int _ _) .none (by omega) fun t1 => ?_
    rw [pickFrom]
    refine a_nil ?_
    refine p_zipB fun z TO i1 i2 TI D => ?_
    refine comp_zipB TPr pairU hA.hh D Fz.add_self (by omega) ?_ ?_
    · intro b c tk tk' fz₁ ex B' C mC hf0 hle0 hfs hbc hle
      have T' : Tp mg mb B'.f0 := hf0 ▸ (T.mono hle0)
      refine e_list ?_
      refine a_cons ?_
      refine e_call ?_
      refine e_bi (by assumption) (by rfl) ?_
      refine c_builtin ?_
      refine a_cons ?_
      refine e_loc (by repeat first | assumption | exact upd_same | refine upd_ne (by decide) ?_) ?_
      refine a_cons ?_
      refine e_loc (by repeat first | assumption | exact upd_same | refine upd_ne (by decide) ?_) ?_
      refine a_nil ?_
      refine p_min hA.hh fun t2 => ?_
      refine a_cons ?_
      refine e_call ?_
      refine e_bi (by assumption) (by rfl) ?_
      refine c_builtin ?_
      refine a_cons ?_
      refine e_loc (by repeat first | assumption | exact upd_same | refine upd_ne (by decide) ?_) ?_
      refine a_cons ?_
      refine e_loc (by repeat first | assumption | exact upd_same | refine upd_ne (by decide) ?_) ?_
      refine a_nil ?_
      refine p_max hA.hh fun t3 => ?_
      refine a_nil ?_
      refine p_newListF (by simp) fun a' => ?_
      exact fun s S => ⟨_, Fz.le_add, ⟨a', 0, _, _, rfl, Fz.add_self, ⟨_, rfl⟩, ⟨_, rfl⟩⟩, S⟩
    · intro D' acc k fz' C oC mC hle hacc hC
      refine rr_none (by assumption) ?_
      exact fun s S => RetO.mk S ⟨D', acc, k, rfl, rfl, hacc⟩
  · obtain ⟨c, vs, k, rfl, rfl, hal⟩ := hr
    exact h c vs k fz' hle hal
end
-- text ML3
section
variable {prog : Program} {w : World} {A : Around} {E : Value → Shared → Prop} {B : Bs} {L : Addr} {mg mb : Str → Option Value} {m : Str → Option Value} {mu : Led} {fz : Fz} {t u : Tok}
noncomputable def fOne (far : Int) : Nat := (far % 8).toNat
noncomputable def fOther (far : Int) : Nat := (((fOne far : Int) + 1 + far / 8 % 7) % 8).toNat
noncomputable def fSwap (ds : List Int) (far : Int) : List Int := (ds.set (fOne far) (ds.getD (fOther far) 0)).set (fOther far) (ds.getD (fOne far) 0)
noncomputable def fAnew (ds : List Int) (far : Int) : List Int := ds.set (far / 56 % 8).toNat (far / 448 % 3)
theorem further_call {v : Value} {ds : List Int} {far : Int} {Q : Value → Shared → Prop} (T : Tp mg mb fz) {k0 : Nat} (hA : Rm A (k0 + 2)) (hv : (TList TInt).R fz v ds) (h8 : ds.length = 8)
    (h : ∀ v' fz', fz.le fz' → (TList (TList TInt)).R fz' v' [fSwap ds far, fAnew ds far] → ∀ s, Fs B L m mu fz' s → Q v' s) :
    ∀ s, Fs B L m mu fz s → wpAny (model prog w) A (call (.ref 113) [v, .int far u]) Q E s := by
  refine call_fn (binds := [(Str.ofString "digits", v), (Str.ofString "far", .int far u)]) (fun v' fz' => (TList (TList TInt)).R fz' v' [fSwap ds far, fAnew ds far]) T T.f113 hA.rl (fun pm doc => rfl) (by rfl)
    (fun B' L' e _ => ?_) (fun v fz' hle hr => h v fz' hle hr)
  subst e
  obtain ⟨a, n, vs, rfl, ha, hal⟩ := hv
  have hF : (TList TInt).R B'.f0 (.ref a) ds := TList.of ha hal
  have hl := hal.length
  have h1 : (fOne far : Int) = far % 8 := by unfold fOne; omega
  have h2 : (fOther far : Int) = (far % 8 + 1 + far / 8 % 7) % 8 := by unfold fOther; omega
  have b1 : fOne far < 8 := by omega
  have b2 : fOther far < 8 := by omega
  unfold mOf
  simp only [List.foldl_cons, List.foldl_nil]
  refine x_cons ?_
  refine x_assign ?_
  refine e_bin ?_
  refine e_loc (by repeat first | assumption | exact upd_same | refine upd_ne (by decide) ?_) ?_
  refine e_int ?_; intro _
  refine i_modP (by decide) ?_; intro _
  refine store ?_
  refine x_cons ?_
  refine x_assign ?_
  refine e_bin ?_
  refine e_bin ?_
  refine e_bin ?_
  refine e_loc (by repeat first | assumption | exact upd_same | refine upd_ne (by decide) ?_) ?_
  refine e_int ?_; intro _
  refine i_add ?_; intro _
  refine e_bin ?_
  refine e_bin ?_
  refine e_loc (by repeat first | assumption | exact upd_same | refine upd_ne (by decide) ?_) ?_
  refine e_int ?_; intro _
  refine i_divP (by decide) (by decide) ?_; intro _
  refine e_int ?_; intro _
  refine i_modP (by decide) ?_; intro _
  refine i_add ?_; intro _
  refine e_int ?_; intro _
  refine i_modP (by decide) ?_; intro _
  refine store ?_
  refine x_cons ?_
  refine x_assign ?_
  refine e_call ?_
  refine e_bi (by assumption) (by rfl) ?_
  refine c_type ?_
  refine a_cons ?_
  refine e_loc (by repeat first | assumption | exact upd_same | refine upd_ne (by decide) ?_) ?_
  refine a_nil ?_
  refine p_copyL (.inl ha) (by omega) fun c1 k1 => ?_
  refine store ?_
  refine x_cons ?_
  refine x_assignSub ?_
  refine e_sub ?_
  refine e_loc (by repeat first | assumption | exact upd_same | refine upd_ne (by decide) ?_) ?_
  refine e_loc (by repeat first | assumption | exact upd_same | refine upd_ne (by decide) ?_) ?_
  refine p_itemI hF (fOther far) h2.symm (by omega) (by omega) fun t1 => ?_
  refine e_loc (by repeat first | assumption | exact upd_same | refine upd_ne (by decide) ?_) ?_
  refine e_loc (by repeat first | assumption | exact upd_same | refine upd_ne (by decide) ?_) ?_
  refine p_setItem (pre := []) (by omega) (by omega) (by omega) fun n1 => ?_
  refine x_cons ?_
  refine x_assignSub ?_
  refine e_sub ?_
  refine e_loc (by repeat first | assumption | exact upd_same | refine upd_ne (by decide) ?_) ?_
  refine e_loc (by repeat first | assumption | exact upd_same | refine upd_ne (by decide) ?_) ?_
  refine p_itemI hF (fOne far) h1.symm (by omega) (by omega) fun t2 => ?_
  refine e_loc (by repeat first | assumption | exact upd_same | refine upd_ne (by decide) ?_) ?_
  refine e_loc (by repeat first | assumption | exact upd_same | refine upd_ne (by decide) ?_) ?_
  refine p_setItem (pre := []) (by omega) (by rw [List.length_set]; omega) (by rw [List.length_set]; omega) fun n2 => ?_
  refine x_cons ?_
  refine x_assign ?_
  refine e_call ?_
  refine e_bi (by assumption) (by rfl) ?_
  refine c_type ?_
  refine a_cons ?_
  refine e_loc (by repeat first | assumption | exact upd_same | refine upd_ne (by decide) ?_) ?_
  refine a_nil ?_
  refine p_copyL (.inl ha) (by omega) fun c2 k2 => ?_
  refine store ?_
  refine x_cons ?_
  refine x_assignSub ?_
  refine e_bin ?_
  refine e_bin ?_
  refine e_loc (by repeat first | assumption | exact upd_same | refine upd_ne (by decide) ?_) ?_
  refine e_int ?_; intro _
  refine i_divP (by decide) (by decide) ?_; intro _
  refine e_int ?_; intro _
  refine i_modP (by decide) ?_; intro _
  refine e_loc (by repeat first | assumption | exact upd_same | refine upd_ne (by decide) ?_) ?_
  refine e_bin ?_
  refine e_bin ?_
  refine e_loc (by repeat first | assumption | exact upd_same | refine upd_ne (by decide) ?_) ?_
  refine e_int ?_; intro _
  refine i_divP (by decide) (by decide) ?_; intro _
  refine e_int ?_; intro _
  refine i_modP (by decide) ?_; intro _
  refine p_setItem (pre := []) (by omega) (by omega) (by omega) fun n3 => ?_
  refine x_cons ?_
  refine x_ret ?_
  refine e_list ?_
  refine a_cons ?_
  refine e_loc (by repeat first | assumption | exact upd_same | refine upd_ne (by decide) ?_) ?_
  refine a_cons ?_
  refine e_loc (by repeat first | assumption | exact upd_same | refine upd_ne (by decide) ?_) ?_
  refine a_nil ?_
  refine fzL ?_
  refine fzL ?_
  skip
  refine p_newListF (by simp) fun r => ?_
  refine fun s S => Ret.mk S ?_
  have e1 : (far % 8).toNat = fOne far := rfl
  have e2 : ((far % 8 + 1 + far / 8 % 7) % 8).toNat = fOther far := by omega
  refine TList.of Fz.add_self (.cons ?_ (.cons ?_ .nil))
  · refine TList.of (.inl (.inr ⟨rfl, rfl⟩)) ?_
    rw [e1, e2]
    exact ((hal.up (Fz.le_trans Fz.le_add (Fz.le_trans Fz.le_add Fz.le_add))).set _ ⟨t1, rfl⟩).set _ ⟨t2, rfl⟩
  · exact TList.of (.inl (.inl (.inr ⟨rfl, rfl⟩))) ((hal.up (Fz.le_trans Fz.le_add (Fz.le_trans Fz.le_add Fz.le_add))).set _ ⟨_, rfl⟩)
theorem are_call {v v' : Value} {ws : List (List UInt8)} {rs : List (List Int)} {Q : Value → Shared → Prop} (T : Tp mg mb fz) {k0 : Nat} (hA : Rm A (k0 + 4)) (hv : (TList TBy).R fz v ws) (hv' : (TList (TList TInt)).R fz v' rs) (hz : ws.length ≤ 1000) (hz' : rs.length ≤ 1000) (h3 : ∀ r ∈ rs, r.length ≤ 1000 ∧ D3 r)
    (h : ∀ s, Fs B L m mu fz s → Q (.bool (decide (ws = rs.map signs))) s) :
    ∀ s, Fs B L m mu fz s → wpAny (model prog w) A (call (.ref 118) [v, v']) Q E s := by
  intro s S
  have hle0 := S.le
  revert s S
  refine call_fn (binds := [(Str.ofString "writings", v), (Str.ofString "rows", v')]) (fun v _ => v = .bool (decide (ws = rs.map signs))) T T.f118 hA.rl (fun pm doc => rfl) (by rfl)
    (fun B' L' e _ => ?_) (fun v fz' hle hr s' S' => ?_)
  · subst e
    obtain ⟨a, n, vs, rfl, ha, hal⟩ := hv
    obtain ⟨a', n', vs', rfl, ha', hal'⟩ := hv'
    have hl := hal.length
    unfold mOf
    simp only [List.foldl_cons, List.foldl_nil]
    refine x_cons ?_
    refine x_for0 ?_
    refine e_loc (by repeat first | assumption | exact upd_same | refine upd_ne (by decide) ?_) ?_
    refine for_list (J := fun i m' mu' fz' => m' (Str.ofString "writings") = some (.ref a) ∧ m' (Str.ofString "rows") = some (.ref a') ∧ mu' = []) ha rfl rfl hA.hh ?_ ?_ ?_
    · exact ⟨by repeat first | assumption | exact upd_same | refine upd_ne (by decide) ?_, by repeat first | assumption | exact upd_same | refine upd_ne (by decide) ?_, rfl⟩
    · rintro i hi m₁ mu₁ fz₁ ex hle1 ⟨g1, g2, rfl⟩
      have T1 := T.mono hle1
      obtain ⟨tk, hr⟩ := hal.get hi (by omega)
      rw [hr]
      refine x_cons ?_
      refine x_if ?_
      refine t_cmp ?_
      refine e_call ?_
      refine e_bi (by assumption) (by rfl) ?_
      refine c_type ?_
      refine a_cons ?_
      refine e_loc (by repeat first | assumption | exact upd_same | refine upd_ne (by decide) ?_) ?_
      refine a_nil ?_
      refine p_typeB ?_
      refine e_bi (by assumption) (by rfl) ?_
      refine p_isNotT ?_
      refine tr_bool ?_
      refine brF (by decide) ?_
      refine x_nil ?_
      refine x_nil ?_
      exact fun s S => TurnPost.next (mu := []) S (Fz.le_refl _) ⟨by repeat first | assumption | exact upd_same | refine upd_ne (by decide) ?_, by repeat first | assumption | exact upd_same | refine upd_ne (by decide) ?_, rfl⟩
    · rintro m₁ mu₁ fz₁ hle1 ⟨g1, g2, rfl⟩
      have T1 := T.mono hle1
      refine x_cons ?_
      refine x_ret ?_
      refine e_cmp ?_
      refine e_loc (by repeat first | assumption | exact upd_same | refine upd_ne (by decide) ?_) ?_
      refine e_comp ?_
      refine e_loc (by repeat first | assumption | exact upd_same | refine upd_ne (by decide) ?_) ?_
      refine comp_list (TList TInt) TBy signs hA.hh (hle1 _ _ ha') (hal'.up hle1) (by omega) ?_ ?_
      · intro d v fz₂ ex B'' C mC hf0 hle0 hfs hd hr hle
        have T2 : Tp mg mb B''.f0 := hf0 ▸ T1
        refine e_call ?_
        refine e_glob (by assumption) (by rfl) ?_
        refine c_fn T2.f82 ?_
        refine a_cons ?_
        refine e_loc (by repeat first | assumption | exact upd_same | refine upd_ne (by decide) ?_) ?_
        refine a_nil ?_
        refine l_fl ?_
        refine signs_call (k0 := k0) (T1.mono hle) ((hA.dn (k := k0 + 3) (env := envOf (sName (topS 22)) (sScope (topS 22)) L' 118 (.ref 117))).le (by omega)) hr (h3 d hd).1 (h3 d hd).2 fun t1 => ?_
        exact fun s S => cdone S (Fz.le_refl _) ⟨t1, rfl⟩
      · intro D acc k fz' C oC mC hle hacc hC
        refine rr_none (by assumption) ?_
        refine fzL ?_
        refine p_eq (TList TBy) (hA.dn (env := envOf (sName (topS 22)) (sScope (topS 22)) L' 118 (.ref 117))) (by decide) (x := ws) (y := rs.map signs) (TList.of (n := n) ?_ (hal.up (Fz.le_trans hle1 (Fz.le_trans hle Fz.le_add)))) (TList.of Fz.add_self (hacc.up Fz.le_add)) ?_
        · exact .inl (hle _ _ (hle1 _ _ ha))
        · exact fun s S => Ret.mk S rfl
  · subst hr
    exact h _ (S'.less hle hle0)
end
-- text ML4
noncomputable def kd (a b : Nat) : Nat := match a, b with
  | 0, 0 => 0 | 0, 1 => 1 | 0, _ => 2
  | 1, 0 => 1 | 1, 1 => 3 | 1, _ => 4
  | _, 0 => 2 | _, 1 => 4 | _, _ => 5
noncomputable def kdI (a b : Int) : Nat := kd a.toNat b.toNat
noncomputable def lastI (r : List Int) : Int := r.getD (r.length - 1) 0
noncomputable def bump (c : List Int) (p : Int × Int) : List Int := c.set (kdI p.1 p.2) (c.getD (kdI p.1 p.2) 0 + 1)
noncomputable def cntOf (ds : List Int) (i : Nat) : List Int := ((ds.zip (ds.drop 1)).take i).foldl bump [0, 0, 0, 0, 0, 0]
noncomputable def decL (l : List Int) (k : Nat) : List Int := l.take k ++ [l.getD k 0 - 1] ++ l.drop (k + 1)
noncomputable def ext (p : List Int × List Int) (d : Int) : List (List Int × List Int) := if 0 < p.2.getD (kdI (lastI p.1) d) 0 then [(p.1 ++ [d], decL p.2 (kdI (lastI p.1) d))] else []
noncomputable def exts (p : List Int × List Int) (j : Nat) : List (List Int × List Int) := ([0, 1, 2].take j).flatMap (ext p)
noncomputable def grow (g : List (List Int × List Int)) (i : Nat) : List (List Int × List Int) := (g.take i).flatMap fun p => exts p 3
noncomputable def grown (ds : List Int) : Nat → List (List Int × List Int)
  | 0 => [(ds.take 1, cntOf ds 7)]
  | i + 1 => grow (grown ds i) (grown ds i).length
noncomputable def rowsOf (ds : List Int) : List (List Int) := (grown ds 7).map (·.1)
theorem kd_le (a b : Nat) : kd a b ≤ 5 := by unfold kd; split <;> omega
theorem exts_len (p : List Int × List Int) (j : Nat) : (exts p j).length ≤ 3 := by
  have h : ∀ l : List Int, (l.flatMap (ext p)).length ≤ l.length := by
    intro l
    induction l with
    | nil => exact Nat.le_refl _
    | cons d l ih =>
      have : (ext p d).length ≤ 1 := by unfold ext; split <;> simp
      simp only [List.flatMap_cons, List.length_append, List.length_cons]
      omega
  refine Nat.le_trans (h _) ?_
  rw [List.length_take]
  simp
  omega
theorem grow_len (g : List (List Int × List Int)) (i : Nat) : (grow g i).length ≤ 3 * g.length := by
  have h : ∀ l : List (List Int × List Int), (l.flatMap fun p => exts p 3).length ≤ 3 * l.length := by
    intro l
    induction l with
    | nil => exact Nat.le_refl _
    | cons d l ih =>
      have := exts_len d 3
      simp only [List.flatMap_cons, List.length_append, List.length_cons]
      omega
  refine Nat.le_trans (h _) ?_
  rw [List.length_take]
  omega
theorem grown_len (ds : List Int) (i : Nat) : (grown ds i).length ≤ 3 ^ i := by
  induction i with
  | zero => exact Nat.le_refl _
  | succ i ih =>
    refine Nat.le_trans (grow_len _ _) ?_
    rw [Nat.pow_succ]
    omega
theorem al_int {f : Fz} {vs : List Value} {xs : List Int} (h : Al (TInt.R f) vs xs) {j : Nat} (hj : j < xs.length) : ∃ t, vs[j]? = some (.int (xs.getD j 0) t) := by
  have h1 : j < vs.length := by rw [h.length]; exact hj
  obtain ⟨t, e⟩ := h.get h1 hj
  refine ⟨t, ?_⟩
  rw [List.getElem?_eq_getElem h1, e]
  simp [hj]
theorem kd_at {a b : Int} (ha : 0 ≤ a ∧ a < 3) (hb : 0 ≤ b ∧ b < 3) : ∃ r : List Int, [[0, 1, 2], [1, 3, 4], [2, 4, 5]][a.toNat]? = some r ∧ r.length = 3 ∧ r.getD b.toNat 0 = (kdI a b : Int) := by
  obtain rfl | rfl | rfl : a = 0 ∨ a = 1 ∨ a = 2 := by omega
  all_goals obtain rfl | rfl | rfl : b = 0 ∨ b = 1 ∨ b = 2 := by omega
  all_goals exact ⟨_, rfl, rfl, rfl⟩
theorem cntOf_len (ds : List Int) (i : Nat) : (cntOf ds i).length = 6 := by
  unfold cntOf
  generalize (ds.zip (ds.drop 1)).take i = l
  have h : ∀ (l : List (Int × Int)) (c : List Int), c.length = 6 → (l.foldl bump c).length = 6 := by
    intro l
    induction l with
    | nil => exact fun c h => h
    | cons p l ih => exact fun c h => ih _ (by unfold bump; rw [List.length_set]; exact h)
  exact h l _ rfl
theorem decL_len {l : List Int} {k : Nat} (h : k < l.length) : (decL l k).length = l.length := by
  unfold decL
  simp only [List.length_append, List.length_take, List.length_drop, List.length_cons, List.length_nil]
  omega
theorem mem_ext {p q : List Int × List Int} {d : Int} (h : q ∈ ext p d) : 0 < p.2.getD (kdI (lastI p.1) d) 0 ∧ q = (p.1 ++ [d], decL p.2 (kdI (lastI p.1) d)) := by
  unfold ext at h
  split at h
  · rename_i h0
    exact ⟨h0, List.mem_singleton.mp h⟩
  · cases h
theorem D3.snoc {r : List Int} {d : Int} (h : D3 r) (h1 : 0 ≤ d) (h2 : d < 3) : D3 (r ++ [d]) := by
  intro x hx
  rcases List.mem_append.mp hx with hx | hx
  · exact h x hx
  · rw [List.mem_singleton.mp hx]; exact ⟨h1, h2⟩
theorem grown_inv {ds : List Int} (h8 : ds.length = 8) (h3 : D3 ds) : ∀ i, ∀ p ∈ grown ds i, p.1.length = i + 1 ∧ D3 p.1 ∧ p.2.length = 6 := by
  intro i
  induction i with
  | zero =>
    intro p hp
    rw [List.mem_singleton.mp hp]
    exact ⟨by simp [h8], fun x hx => h3 x (List.take_subset _ _ hx), cntOf_len _ _⟩
  | succ i ih =>
    intro p hp
    obtain ⟨q, hq, hp⟩ := List.mem_flatMap.mp hp
    obtain ⟨d, hd, hp⟩ := List.mem_flatMap.mp hp
    obtain ⟨i1, i2, i3⟩ := ih q (List.take_subset _ _ hq)
    obtain ⟨_, rfl⟩ := mem_ext hp
    have hd' : d = 0 ∨ d = 1 ∨ d = 2 := by simpa using hd
    exact ⟨by simp [i1], i2.snoc (by omega) (by omega), by
      have := kd_le (lastI q.1).toNat d.toNat
      rw [decL_len (by unfold kdI; omega), i3]⟩
theorem lastI_d3 {r : List Int} (h : D3 r) (hr : 0 < r.length) : 0 ≤ lastI r ∧ lastI r < 3 := by
  refine h _ ?_
  unfold lastI
  rw [List.getD_eq_getElem?_getD, List.getElem?_eq_getElem (by omega)]
  exact List.getElem_mem _
noncomputable abbrev TG : Ty (List Int × List Int) := TTwo (TList TInt) (TList TInt)
theorem both {P : Str → Prop} {x y : Str} (h1 : P x) (h2 : P y) : ∀ x' ∈ [x, y], P x' := by
  intro x' hx
  rcases List.mem_cons.mp hx with rfl | hx
  · exact h1
  · rw [List.mem_singleton.mp hx]; exact h2
section
variable {prog : Program} {w : World} {A : Around} {E : Value → Shared → Prop} {B : Bs} {L : Addr} {mg mb : Str → Option Value} {m : Str → Option Value} {mu : Led} {fz : Fz} {t u : Tok}
theorem rows_call {v : Value} {ds : List Int} {Q : Value → Shared → Prop} (T : Tp mg mb fz) {k0 : Nat} (hA : Rm A (k0 + 2)) (hv : (TList TInt).R fz v ds) (h8 : ds.length = 8) (h3 : D3 ds)
    (h : ∀ v' fz', fz.le fz' → (TList (TList TInt)).R fz' v' (rowsOf ds) → ∀ s, Fs B L m mu fz' s → Q v' s) :
    ∀ s, Fs B L m mu fz s → wpAny (model prog w) A (call (.ref 94) [v]) Q E s := by
  refine call_fn (binds := [(Str.ofString "digits", v)]) (fun v' fz' => (TList (TList TInt)).R fz' v' (rowsOf ds)) T T.f94 hA.rl (fun pm doc => rfl) (by rfl)
    (fun B' L' e _ => ?_) (fun v fz' hle hr => h v fz' hle hr)
  subst e
  obtain ⟨a, n, vs, rfl, ha, hal⟩ := hv
  have hl := hal.length
  unfold mOf
  simp only [List.foldl_cons, List.foldl_nil]
  refine x_cons ?_
  refine x_assign ?_
  refine e_list ?_
  refine a_cons ?_
  refine e_list ?_
  refine a_cons ?_
  refine e_int ?_; intro _
  refine a_cons ?_
  refine e_int ?_; intro _
  refine a_cons ?_
  refine e_int ?_; intro _
  refine a_nil ?_
  refine p_newListF (by simp) fun r0 => ?_
  refine a_cons ?_
  refine e_list ?_
  refine a_cons ?_
  refine e_int ?_; intro _
  refine a_cons ?_
  refine e_int ?_; intro _
  refine a_cons ?_
  refine e_int ?_; intro _
  refine a_nil ?_
  refine p_newListF (by simp) fun r1 => ?_
  refine a_cons ?_
  refine e_list ?_
  refine a_cons ?_
  refine e_int ?_; intro _
  refine a_cons ?_
  refine e_int ?_; intro _
  refine a_cons ?_
  refine e_int ?_; intro _
  refine a_nil ?_
  refine p_newListF (by simp) fun r2 => ?_
  refine a_nil ?_
  refine p_newListF (by simp) fun r3 => ?_
  refine store ?_
  refine x_cons ?_
  refine x_assign ?_
  refine e_list ?_
  refine a_cons ?_
  refine e_int ?_; intro _
  refine a_cons ?_
  refine e_int ?_; intro _
  refine a_cons ?_
  refine e_int ?_; intro _
  refine a_cons ?_
  refine e_int ?_; intro _
  refine a_cons ?_
  refine e_int ?_; intro _
  refine a_cons ?_
  refine e_int ?_; intro _
  refine a_nil ?_
  refine p_newList (by simp) fun cs => ?_
  refine store ?_
  refine x_cons ?_
  refine x_for0 ?_
  refine e_call ?_
  refine e_bi (by assumption) (by rfl) ?_
  refine c_type ?_
  refine a_cons ?_
  refine e_loc (by repeat first | assumption | exact upd_same | refine upd_ne (by decide) ?_) ?_
  refine a_cons ?_
  refine e_sub ?_
  refine e_loc (by repeat first | assumption | exact upd_same | refine upd_ne (by decide) ?_) ?_
  refine e_slice ?_
  refine ep_some ?_
  refine e_int ?_; intro _
  refine ep_none ?_
  refine ep_none ?_
  refine p_slObj ?_; intro _
  rename_i s0 s1 s2 s3 s4 s5 s6 s7 s8 z0 z1 z2 z3 z4 z5 t1 sl
  refine p_cutFrom (.inl (.inl (.inl (.inl (.inl (.inl ha)))))) Fz.add_self (by decide) (by omega) fun db => ?_
  refine a_nil ?_
  refine fzL ?_
  refine p_zipL (fz := Fz.add _ _ _) (.inl (.inl (.inl (.inl (.inl (.inl ha)))))) Fz.add_self fun z TO i1 i2 TI D => ?_
  have K : (TList (TList TInt)).R ((((((B'.f0.add r0 (W.listOf #[Value.int 0 s0, Value.int 1 s1, Value.int 2 s2] 0)).add r1 (W.listOf #[Value.int 1 s3, Value.int 3 s4, Value.int 4 s5] 0)).add r2 (W.listOf #[Value.int 2 s6, Value.int 4 s7, Value.int 5 s8] 0)).add r3 (W.listOf #[Value.ref r0, Value.ref r1, Value.ref r2] 0)).add sl (slObj (Value.int 1 t1) Value.none Value.none))) (.ref r3) [[0, 1, 2], [1, 3, 4], [2, 4, 5]] := by
    refine TList.of (vs := [Value.ref r0, Value.ref r1, Value.ref r2]) (by repeat first | exact Fz.add_self | refine Or.inl ?_) (.cons ?_ (.cons ?_ (.cons ?_ .nil)))
    · exact TList.of (vs := [Value.int 0 s0, Value.int 1 s1, Value.int 2 s2]) (by repeat first | exact Fz.add_self | refine Or.inl ?_) (.cons ⟨_, rfl⟩ (.cons ⟨_, rfl⟩ (.cons ⟨_, rfl⟩ .nil)))
    · exact TList.of (vs := [Value.int 1 s3, Value.int 3 s4, Value.int 4 s5]) (by repeat first | exact Fz.add_self | refine Or.inl ?_) (.cons ⟨_, rfl⟩ (.cons ⟨_, rfl⟩ (.cons ⟨_, rfl⟩ .nil)))
    · exact TList.of (vs := [Value.int 2 s6, Value.int 4 s7, Value.int 5 s8]) (by repeat first | exact Fz.add_self | refine Or.inl ?_) (.cons ⟨_, rfl⟩ (.cons ⟨_, rfl⟩ (.cons ⟨_, rfl⟩ .nil)))
  refine for_zipL (J := fun i m' mu' fz' => ∃ cv k, m' (Str.ofString "digits") = some (.ref a) ∧ m' (Str.ofString "kinds") = some (.ref r3) ∧ m' (Str.ofString "counts") = some (.ref cs) ∧ mu' = [(cs, listOf cv.toArray k)] ∧ Al (TInt.R fz') cv (cntOf ds i)) hA.hh D (.inl (.inl (.inl (.inl (.inl (.inl (.inl ha))))))) (.inl Fz.add_self) Fz.add_self ?_ ?_ ?_ (hl := both rfl rfl)
  · exact ⟨_, 0, by repeat first | assumption | exact upd_same | refine upd_ne (by decide) ?_, by repeat first | assumption | exact upd_same | refine upd_ne (by decide) ?_, by repeat first | assumption | exact upd_same | refine upd_ne (by decide) ?_, rfl, .cons ⟨_, rfl⟩ (.cons ⟨_, rfl⟩ (.cons ⟨_, rfl⟩ (.cons ⟨_, rfl⟩ (.cons ⟨_, rfl⟩ (.cons ⟨_, rfl⟩ .nil)))))⟩
  · rintro i m₁ mu₁ fz₁ ex hi hi2 hle1 ⟨cv, k1, g1, g2, g3, rfl, g4⟩
    have K1 := (TList (TList TInt)).mono (Fz.le_trans Fz.le_add (Fz.le_trans Fz.le_add hle1)) K
    have hi7 : i < 7 := by rw [List.length_drop] at hi2; have : Int.toNat 1 = 1 := rfl; omega
    obtain ⟨t2, e1⟩ := hal.get hi (by omega)
    obtain ⟨t3, e2⟩ := (hal.drop (Int.toNat 1)).get hi2 (by rw [List.length_drop]; have : Int.toNat 1 = 1 := rfl; omega)
    have d1 := h3 (ds[i]'(by omega)) (List.getElem_mem _)
    have d2 := h3 ((ds.drop (Int.toNat 1))[i]'(by rw [List.length_drop]; have : Int.toNat 1 = 1 := rfl; omega)) (List.drop_subset _ _ (List.getElem_mem _))
    have hnext : cntOf ds (i + 1) = bump (cntOf ds i) (ds[i]'(by omega), (ds.drop (Int.toNat 1))[i]'(by rw [List.length_drop]; have : Int.toNat 1 = 1 := rfl; omega)) := by
      unfold cntOf
      rw [List.take_add_one, List.foldl_append]
      rw [List.getElem?_eq_getElem (by rw [List.length_zip, List.length_drop]; omega), List.getElem_zip]
      rfl
    rw [e1, e2]
    generalize ds[i]'(by omega) = x at d1 hnext
    generalize (ds.drop (Int.toNat 1))[i]'(by rw [List.length_drop]; have : Int.toNat 1 = 1 := rfl; omega) = y at d2 hnext
    obtain ⟨r, er, r3l, rk⟩ := kd_at d1 d2
    have hc6 := cntOf_len ds i
    have hcv := g4.length
    have hk5 : kdI x y ≤ 5 := kd_le _ _
    obtain ⟨t4, ec⟩ := al_int g4 (j := kdI x y) (by omega)
    refine x_cons ?_
    refine x_augSub ?_
    refine e_loc (by repeat first | assumption | exact upd_same | refine upd_ne (by decide) ?_) ?_
    refine e_sub ?_
    refine e_sub ?_
    refine e_loc (by repeat first | assumption | exact upd_same | refine upd_ne (by decide) ?_) ?_
    refine e_loc (by repeat first | assumption | exact upd_same | refine upd_ne (by decide) ?_) ?_
    refine p_itemT (TList TInt) K1 d1.1 (by obtain ⟨h, _⟩ := List.getElem?_eq_some_iff.mp er; exact h) (by simp) fun rv hrv => ?_
    obtain ⟨_, er'⟩ := List.getElem?_eq_some_iff.mp er
    rw [er'] at hrv
    refine e_loc (by repeat first | assumption | exact upd_same | refine upd_ne (by decide) ?_) ?_
    refine p_itemI hrv y.toNat (Int.toNat_of_nonneg d2.1).symm (by omega) (by omega) fun t5 => ?_
    rw [rk]
    skip
    refine p_getItem (k := (kdI x y : Int)) (.inr (.head _)) (by omega) (v := .int ((cntOf ds i).getD (kdI x y) 0) t4) (by simpa using ec) (by omega) ?_
    refine e_int ?_; intro _
    refine i_iadd fun t6 => ?_
    refine p_setItem (vs := cv) (k := (kdI x y : Int)) (pre := []) (by omega) (by omega) (by omega) fun n5 => ?_
    refine x_nil ?_
    refine fun s S => TurnPost.next (mu := [(cs, _)]) S (Fz.le_refl _) ⟨_, _, by repeat first | assumption | exact upd_same | refine upd_ne (by decide) ?_, by repeat first | assumption | exact upd_same | refine upd_ne (by decide) ?_, by repeat first | assumption | exact upd_same | refine upd_ne (by decide) ?_, rfl, ?_⟩
    rw [hnext]
    exact g4.set _ ⟨_, rfl⟩
  · rintro m₁ mu₁ fz₁ hle1 ⟨cv, k1, g1, g2, g3, rfl, g4⟩
    have K1 := (TList (TList TInt)).mono (Fz.le_trans Fz.le_add (Fz.le_trans Fz.le_add hle1)) K
    have hle2 : B'.f0.le fz₁ := by
      refine Fz.le_trans ?_ hle1
      repeat first | exact Fz.le_refl _ | refine Fz.le_trans ?_ Fz.le_add
    have e7 : min vs.length (vs.drop (Int.toNat 1)).length = 7 := by rw [List.length_drop]; have : Int.toNat 1 = 1 := rfl; omega
    rw [e7] at g4
    clear hle1 K e7
    have T1 := T.mono hle2
    refine x_cons ?_
    refine x_assign ?_
    refine e_list ?_
    refine a_cons ?_
    refine e_list ?_
    refine a_cons ?_
    refine e_sub ?_
    refine e_loc (by repeat first | assumption | exact upd_same | refine upd_ne (by decide) ?_) ?_
    refine e_slice ?_
    refine ep_none ?_
    refine ep_some ?_
    refine e_int ?_; intro _
    refine ep_none ?_
    refine p_slObj ?_; intro _
    refine p_cutTo (.inl (.inl (hle2 _ _ ha))) Fz.add_self (by decide) (by omega) fun dc => ?_
    refine a_cons ?_
    refine e_loc (by repeat first | assumption | exact upd_same | refine upd_ne (by decide) ?_) ?_
    refine a_nil ?_
    refine fzL ?_
    refine fzL ?_
    refine p_newListF (by simp) fun gi => ?_
    refine a_nil ?_
    refine p_newListF (by simp) fun g0 => ?_
    refine store ?_
    refine x_cons ?_
    refine x_for0 ?_
    refine e_call ?_
    refine e_bi (by assumption) (by rfl) ?_
    refine c_type ?_
    refine a_cons ?_
    refine e_bin ?_
    refine e_call ?_
    refine e_bi (by assumption) (by rfl) ?_
    refine c_builtin ?_
    refine a_cons ?_
    refine e_loc (by repeat first | assumption | exact upd_same | refine upd_ne (by decide) ?_) ?_
    refine a_nil ?_
    rename_i tt sl2
    have hle3 : fz₁.le (((((fz₁.add sl2 (slObj Value.none (Value.int 1 tt) Value.none)).add dc (W.listOf (List.take (Int.toNat 1) vs).toArray 0)).add cs (W.listOf cv.toArray k1)).add gi (W.listOf #[Value.ref dc, Value.ref cs] 0)).add g0 (W.listOf #[Value.ref gi] 0)) := by
      repeat first | exact Fz.le_refl _ | refine Fz.le_trans ?_ Fz.le_add
    have hG : Al (TG.R (((((fz₁.add sl2 (slObj Value.none (Value.int 1 tt) Value.none)).add dc (W.listOf (List.take (Int.toNat 1) vs).toArray 0)).add cs (W.listOf cv.toArray k1)).add gi (W.listOf #[Value.ref dc, Value.ref cs] 0)).add g0 (W.listOf #[Value.ref gi] 0))) [.ref gi] (grown ds 0) := by
      refine .cons ⟨gi, 0, _, _, rfl, .inl (.inr ⟨rfl, rfl⟩), TList.of (.inl (.inl (.inl (.inr ⟨rfl, rfl⟩)))) ?_, TList.of (.inl (.inl (.inr ⟨rfl, rfl⟩))) (g4.up hle3)⟩ .nil
      exact (hal.take 1).up (Fz.le_trans hle2 hle3)
    have hg0 : (((((fz₁.add sl2 (slObj Value.none (Value.int 1 tt) Value.none)).add dc (W.listOf (List.take (Int.toNat 1) vs).toArray 0)).add cs (W.listOf cv.toArray k1)).add gi (W.listOf #[Value.ref dc, Value.ref cs] 0)).add g0 (W.listOf #[Value.ref gi] 0)) g0 (listOf [Value.ref gi].toArray 0) := Fz.add_self
    have ha5 := hle3 _ _ (hle2 _ _ ha)
    have K5 := (TList (TList TInt)).mono hle3 K1
    have T5 := T1.mono hle3
    generalize (((((fz₁.add sl2 (slObj Value.none (Value.int 1 tt) Value.none)).add dc (W.listOf (List.take (Int.toNat 1) vs).toArray 0)).add cs (W.listOf cv.toArray k1)).add gi (W.listOf #[Value.ref dc, Value.ref cs] 0)).add g0 (W.listOf #[Value.ref gi] 0)) = fz₅ at hG hg0 ha5 K5 T5
    refine k_len (.inl ha5) rfl n rfl (by show vs.toArray.size ≤ 16777216; simp; omega) fun t6 => ?_
    refine e_int ?_; intro _
    refine i_sub ?_; intro _
    refine a_nil ?_
    refine k_range1 fun r5 t7 t8 t9 => ?_
    refine for_range (n := 7) (J := fun i m' mu' fz' => ∃ g gv k, m' (Str.ofString "digits") = some (.ref a) ∧ m' (Str.ofString "kinds") = some (.ref r3) ∧ m' (Str.ofString "grown") = some (.ref g) ∧ mu' = [] ∧
      fz' g (listOf gv.toArray k) ∧ Al (TG.R fz') gv (grown ds i)) Fz.add_self (by rw [rangeSize_one, if_pos (by simp; omega)]; simp; omega) (small_up (by omega) (by omega) (by simp; omega) (by simp; omega)) hA.hh ?_ ?_ ?_
    · exact ⟨g0, _, _, by repeat first | assumption | exact upd_same | refine upd_ne (by decide) ?_, by repeat first | assumption | exact upd_same | refine upd_ne (by decide) ?_, by repeat first | assumption | exact upd_same | refine upd_ne (by decide) ?_, rfl, .inl hg0, hG.up Fz.le_add⟩
    · rintro i t10 m₂ mu₂ fz₂ ex2 hi7 hle6 ⟨g, gv, k, f1, f2, f3, rfl, f5, f6⟩
      have K6 := (TList (TList TInt)).mono (Fz.le_trans Fz.le_add hle6) K5
      have T6 := T5.mono (Fz.le_trans Fz.le_add hle6)
      have hgl := grown_len ds i
      have hp7 : 3 ^ i ≤ 3 ^ 7 := Nat.pow_le_pow_right (by decide) (by omega)
      have hp7' : (3 : Nat) ^ 7 = 2187 := rfl
      have hz6 := f6.length
      refine x_cons ?_
      refine x_assign ?_
      refine e_list ?_
      refine a_nil ?_
      refine p_newList (by simp) fun wd => ?_
      refine store ?_
      refine x_cons ?_
      refine x_for0 ?_
      refine e_loc (by repeat first | assumption | exact upd_same | refine upd_ne (by decide) ?_) ?_
      refine for_pairs (TList TInt) (TList TInt) (J := fun j m' mu' fz' => ∃ wv k, m' (Str.ofString "digits") = some (.ref a) ∧ m' (Str.ofString "kinds") = some (.ref r3) ∧ m' (Str.ofString "wider") = some (.ref wd) ∧ mu' = (wd, listOf wv.toArray k) :: ex2 ∧
        Al (TG.R fz') wv (grow (grown ds i) j)) hA.hh f5 f6 ?_ ?_ ?_ (hl := both rfl rfl)
      · exact ⟨[], 0, by repeat first | assumption | exact upd_same | refine upd_ne (by decide) ?_, by repeat first | assumption | exact upd_same | refine upd_ne (by decide) ?_, by repeat first | assumption | exact upd_same | refine upd_ne (by decide) ?_, rfl, .nil⟩
      · rintro j rv lv m₃ mu₃ fz₃ ex3 hj hrv hlv hle7 ⟨wv, k2, q1, q2, q3, rfl, q4⟩
        have hgo : grow (grown ds i) (j + 1) = grow (grown ds i) j ++ exts (grown ds i)[j] 3 := by
          unfold grow
          rw [List.take_add_one, List.getElem?_eq_getElem hj, List.flatMap_append]
          simp
        have K7 := (TList (TList TInt)).mono hle7 K6
        have T7 := T6.mono hle7
        obtain ⟨j1, j2, j3⟩ := grown_inv h8 h3 i _ (List.getElem_mem hj)
        have hgz := grow_len (grown ds i) j
        generalize grow (grown ds i) j = G at q4 hgo hgz
        generalize (grown ds i)[j] = p at hrv hlv j1 j2 j3 hgo
        refine x_cons ?_
        refine x_for0 ?_
        refine e_call ?_
        refine e_bi (by assumption) (by rfl) ?_
        refine c_type ?_
        refine a_cons ?_
        refine e_int ?_; intro _
        refine a_nil ?_
        refine k_range1 fun r6 t11 t12 t13 => ?_
        refine for_range (n := 3) (J := fun e m' mu' fz' => ∃ wv k, m' (Str.ofString "digits") = some (.ref a) ∧ m' (Str.ofString "kinds") = some (.ref r3) ∧ m' (Str.ofString "wider") = some (.ref wd) ∧ m' (Str.ofString "row") = some rv ∧ m' (Str.ofString "left") = some lv ∧
          mu' = (wd, listOf wv.toArray k) :: (ex2 ++ ex3) ∧ Al (TG.R fz') wv (G ++ exts p e)) Fz.add_self (by decide) (by decide) hA.hh ?_ ?_ ?_
        · exact ⟨wv, k2, by repeat first | assumption | exact upd_same | refine upd_ne (by decide) ?_, by repeat first | assumption | exact upd_same | refine upd_ne (by decide) ?_, by repeat first | assumption | exact upd_same | refine upd_ne (by decide) ?_, by repeat first | assumption | exact upd_same | refine upd_ne (by decide) ?_, by repeat first | assumption | exact upd_same | refine upd_ne (by decide) ?_, rfl, by rw [show exts p 0 = [] from rfl, List.append_nil]; exact q4.up Fz.le_add⟩
        · rintro e t14 m₄ mu₄ fz₄ ex4 he3 hle8 ⟨wv4, k4, p1, p2, p3, p4, p5, rfl, p6⟩
          have K8 := (TList (TList TInt)).mono (Fz.le_trans Fz.le_add hle8) K7
          have T8 := T7.mono (Fz.le_trans Fz.le_add hle8)
          have hrv8 := (TList TInt).mono (Fz.le_trans Fz.le_add hle8) hrv
          have hlv8 := (TList TInt).mono (Fz.le_trans Fz.le_add hle8) hlv
          have hez := exts_len p e
          have hw4 := p6.length
          rw [List.length_append] at hw4
          have hl3 := lastI_d3 j2 (by omega)
          have hgo8 : G ++ exts p (e + 1) = (G ++ exts p e) ++ ext p e := by
            have : exts p (e + 1) = exts p e ++ ext p e := by
              unfold exts
              match e, he3 with
              | 0, _ => simp
              | 1, _ => simp
              | 2, _ => simp
            rw [this, List.append_assoc]
          have e0 : (0 : Int) + (e : Int) * 1 = (e : Int) := by omega
          rw [e0]
          obtain ⟨kr, er, r3l, rk⟩ := kd_at hl3 (b := (e : Int)) ⟨by omega, by omega⟩
          have hk5 : kdI (lastI p.1) e ≤ 5 := kd_le _ _
          obtain ⟨erh, er'⟩ := List.getElem?_eq_some_iff.mp er
          unfold ext at hgo8
          generalize kdI (lastI p.1) e = kk at rk hk5 hgo8
          obtain ⟨ra, rn, rvs, rfl, hra, hral⟩ := hrv8
          have hrl := hral.length
          obtain ⟨t15, e15⟩ := al_int hral (j := p.1.length - 1) (by omega)
          refine x_cons ?_
          refine x_assign ?_
          refine e_sub ?_
          refine e_sub ?_
          refine e_loc (by repeat first | assumption | exact upd_same | refine upd_ne (by decide) ?_) ?_
          refine e_sub ?_
          refine e_loc (by repeat first | assumption | exact upd_same | refine upd_ne (by decide) ?_) ?_
          refine e_un ?_
          refine e_int ?_; intro _
          refine i_neg fun _ => ?_
          have e16 : rvs[((-1 : Int) + rvs.length).toNat]? = some (.int (lastI p.1) t15) := by
            rw [show ((-1 : Int) + rvs.length).toNat = p.1.length - 1 by omega]; exact e15
          skip
          refine p_itemNeg (vs := rvs) (k := -1) (v := .int (lastI p.1) t15) (.inl hra) (by omega) (by omega) e16 (by omega) ?_
          skip
          refine p_itemT (TList TInt) K8 hl3.1 erh (by simp) fun rv' hrv' => ?_
          rw [er'] at hrv'
          refine e_loc (by repeat first | assumption | exact upd_same | refine upd_ne (by decide) ?_) ?_
          refine p_itemI hrv' e rfl (by omega) (by omega) fun t16 => ?_
          rw [show kr.getD e 0 = (kk : Int) from rk]
          refine store ?_
          refine x_cons ?_
          refine x_if ?_
          refine t_cmp ?_
          refine e_sub ?_
          refine e_loc (by repeat first | assumption | exact upd_same | refine upd_ne (by decide) ?_) ?_
          refine e_loc (by repeat first | assumption | exact upd_same | refine upd_ne (by decide) ?_) ?_
          refine p_itemI hlv8 kk rfl (by omega) (by omega) fun t17 => ?_
          refine e_int ?_; intro _
          refine c_gt ?_
          refine tr_bool ?_
          by_cases h0 : 0 < p.2.getD kk 0
          · refine brT (by simpa using h0) ?_
            rw [if_pos h0] at hgo8
            obtain ⟨la, ln, lvs, rfl, hla, hlal⟩ := hlv8
            have hll := hlal.length
            refine x_cons ?_
            refine x_expr ?_
            refine e_appendL (pre := []) (l := wd) (by repeat first | assumption | exact upd_same | refine upd_ne (by decide) ?_) ?_
            refine e_list ?_
            refine a_cons ?_
            refine e_bin ?_
            refine e_loc (by repeat first | assumption | exact upd_same | refine upd_ne (by decide) ?_) ?_
            refine e_list ?_
            refine a_cons ?_
            refine e_loc (by repeat first | assumption | exact upd_same | refine upd_ne (by decide) ?_) ?_
            refine a_nil ?_
            refine p_newListF (by simp) fun d1 => ?_
            refine p_addL (.inl (.inl hra)) (.inl Fz.add_self) (by simp; omega) fun c1 => ?_
            refine fzL ?_
            refine a_cons ?_
            refine e_bin ?_
            refine e_bin ?_
            refine e_sub ?_
            refine e_loc (by repeat first | assumption | exact upd_same | refine upd_ne (by decide) ?_) ?_
            refine e_slice ?_
            refine ep_none ?_
            refine ep_some ?_
            refine e_loc (by repeat first | assumption | exact upd_same | refine upd_ne (by decide) ?_) ?_
            refine ep_none ?_
            refine p_slObj ?_; intro _
            refine p_cutTo (k := (kk : Int)) (.inl (by repeat first | exact hla | refine Or.inl ?_)) Fz.add_self (by omega) (by omega) fun c2 => ?_
            refine fzL ?_
            refine e_list ?_
            refine a_cons ?_
            refine e_bin ?_
            refine e_sub ?_
            refine e_loc (by repeat first | assumption | exact upd_same | refine upd_ne (by decide) ?_) ?_
            refine e_loc (by repeat first | assumption | exact upd_same | refine upd_ne (by decide) ?_) ?_
            refine p_itemI (TList.of (n := ln) (by repeat first | exact hla | refine Or.inl ?_) (hlal.up (by repeat first | exact Fz.le_refl _ | refine Fz.le_trans ?_ Fz.le_add))) kk rfl (by omega) (by omega) fun t18 => ?_
            refine e_int ?_; intro _
            refine i_sub ?_; intro _
            refine a_nil ?_
            refine p_newListF (by simp) fun d2 => ?_
            refine p_addL (.inl (.inl Fz.add_self)) (.inl Fz.add_self) (by simp; omega) fun c3 => ?_
            refine fzL ?_
            refine e_sub ?_
            refine e_loc (by repeat first | assumption | exact upd_same | refine upd_ne (by decide) ?_) ?_
            refine e_slice ?_
            refine ep_some ?_
            refine e_bin ?_
            refine e_loc (by repeat first | assumption | exact upd_same | refine upd_ne (by decide) ?_) ?_
            refine e_int ?_; intro _
            refine i_add ?_; intro _
            refine ep_none ?_
            refine ep_none ?_
            refine p_slObj ?_; intro _
            refine p_cutFrom (k := (kk : Int) + 1) (.inl (by repeat first | exact hla | refine Or.inl ?_)) Fz.add_self (by omega) (by omega) fun c4 => ?_
            refine fzL ?_
            refine p_addL (.inl (.inl (.inl Fz.add_self))) (.inl Fz.add_self) (by simp; omega) fun c5 => ?_
            refine fzL ?_
            refine a_nil ?_
            refine p_newListF (by simp) fun nw => ?_
            refine p_app (pre := []) (by omega) ?_
            refine x_nil ?_
            refine x_nil ?_
            refine fun s S => TurnPost.next (mu := (wd, _) :: (ex2 ++ ex3)) S (by repeat first | exact Fz.le_refl _ | refine Fz.le_trans ?_ Fz.le_add) ⟨_, _, by repeat first | assumption | exact upd_same | refine upd_ne (by decide) ?_, by repeat first | assumption | exact upd_same | refine upd_ne (by decide) ?_, by repeat first | assumption | exact upd_same | refine upd_ne (by decide) ?_, by repeat first | assumption | exact upd_same | refine upd_ne (by decide) ?_, by repeat first | assumption | exact upd_same | refine upd_ne (by decide) ?_, rfl, ?_⟩
            rw [hgo8]
            refine (p6.up (by repeat first | exact Fz.le_refl _ | refine Fz.le_trans ?_ Fz.le_add)).snoc ⟨nw, 0, _, _, rfl, Fz.add_self, ?_, ?_⟩
            · exact TList.of (by repeat first | exact Fz.add_self | refine Or.inl ?_) ((hral.up (by repeat first | exact Fz.le_refl _ | refine Fz.le_trans ?_ Fz.le_add)).snoc ⟨_, rfl⟩)
            · exact TList.of (by repeat first | exact Fz.add_self | refine Or.inl ?_) ((((hlal.up (by repeat first | exact Fz.le_refl _ | refine Fz.le_trans ?_ Fz.le_add)).take kk).snoc ⟨_, rfl⟩).append ((hlal.up (by repeat first | exact Fz.le_refl _ | refine Fz.le_trans ?_ Fz.le_add)).drop (kk + 1)))
          · refine brF (by simpa using h0) ?_
            rw [if_neg h0] at hgo8
            refine x_nil ?_
            refine x_nil ?_
            refine fun s S => TurnPost.next (mu := (wd, _) :: (ex2 ++ ex3)) S (Fz.le_refl _) ⟨_, _, by repeat first | assumption | exact upd_same | refine upd_ne (by decide) ?_, by repeat first | assumption | exact upd_same | refine upd_ne (by decide) ?_, by repeat first | assumption | exact upd_same | refine upd_ne (by decide) ?_, by repeat first | assumption | exact upd_same | refine upd_ne (by decide) ?_, by repeat first | assumption | exact upd_same | refine upd_ne (by decide) ?_, rfl, ?_⟩
            rw [hgo8, List.append_nil]
            exact p6
        · rintro m₄ mu₄ fz₄ hle8 ⟨wv4, k4, p1, p2, p3, p4, p5, rfl, p6⟩
          refine x_nil ?_
          refine fun s S => TurnPost.next (mu := (wd, _) :: ex2) S (Fz.le_trans Fz.le_add hle8) ⟨_, _, by repeat first | assumption | exact upd_same | refine upd_ne (by decide) ?_, by repeat first | assumption | exact upd_same | refine upd_ne (by decide) ?_, by repeat first | assumption | exact upd_same | refine upd_ne (by decide) ?_, rfl, ?_⟩
          rw [hgo]
          exact p6
      · rintro m₃ mu₃ fz₃ hle7 ⟨wv, k2, q1, q2, q3, rfl, q4⟩
        refine x_cons ?_
        refine x_assign ?_
        refine e_loc (by repeat first | assumption | exact upd_same | refine upd_ne (by decide) ?_) ?_
        refine store ?_
        refine x_nil ?_
        refine fzL ?_
        refine fun s S => TurnPost.next (mu := []) S (Fz.le_trans hle7 Fz.le_add) ⟨wd, _, _, by repeat first | assumption | exact upd_same | refine upd_ne (by decide) ?_, by repeat first | assumption | exact upd_same | refine upd_ne (by decide) ?_, by repeat first | assumption | exact upd_same | refine upd_ne (by decide) ?_, rfl, Fz.add_self, q4.up Fz.le_add⟩
    · rintro m₂ mu₂ fz₂ hle6 ⟨g, gv, k, f1, f2, f3, rfl, f5, f6⟩
      have T6 := T5.mono (Fz.le_trans Fz.le_add hle6)
      have hgl := grown_len ds 7
      have hp7' : (3 : Nat) ^ 7 = 2187 := rfl
      refine x_cons ?_
      refine x_ret ?_
      refine e_comp ?_
      refine e_loc (by repeat first | assumption | exact upd_same | refine upd_ne (by decide) ?_) ?_
      refine comp_pairs (TList TInt) (TList TInt) (TList TInt) (fun p => p.1) hA.hh f5 f6 (by omega) ?_ ?_
      · intro b c v v' fz₃ ex B'' C mC hf0 hle0 hfs hbc hr hr' hle
        refine e_loc (by repeat first | assumption | exact upd_same | refine upd_ne (by decide) ?_) ?_
        exact fun s S => ⟨_, Fz.le_refl _, hr, S⟩
      · intro D' acc k' fz' C oC mC hle hacc hC
        refine rr_none (by assumption) ?_
        refine fzL ?_
        exact fun s S => Ret.mk S (TList.of Fz.add_self (hacc.up Fz.le_add))
end
-- text ML5
noncomputable def turnB (x : List UInt8) (i j : Nat) : List UInt8 := x.take i ++ ((x.drop i).take (j - i)).reverse ++ x.drop j
noncomputable def canT (x : List UInt8) (i j : Nat) : Prop := i + 4 ≤ j ∧ j ≤ 8 ∧ x.getD i 0 = x.getD (j - 1) 0
noncomputable def TurnsIn (one : List UInt8) (ws : List (List UInt8)) (i j : Nat) : Prop := ∀ i' j', canT one i' j' → (i' < i ∨ (i' = i ∧ j' < j)) → turnB one i' j' ∈ ws
structure Uni (U : List (List UInt8)) : Prop where
  len : ∀ x ∈ U, x.length = 8
  cl : ∀ x ∈ U, ∀ i j, canT x i j → turnB x i j ∈ U
  small : U.length ≤ 1000
/-- what has been reached: words without twins, within U -/
structure RchW (U : List (List UInt8)) (ws : List (List UInt8)) : Prop where
  nd : ws.Nodup
  sub : ∀ x ∈ ws, x ∈ U
theorem nodup_le {α : Type} [DecidableEq α] : ∀ {xs ys : List α}, xs.Nodup → (∀ x ∈ xs, x ∈ ys) → xs.length ≤ ys.length := by
  intro xs
  induction xs with
  | nil => intro ys _ _; exact Nat.zero_le _
  | cons x xs ih =>
    intro ys hn hs
    have hx := hs x (.head _)
    have hn' := List.nodup_cons.mp hn
    have h1 := ih (ys := ys.erase x) hn'.2 fun z hz => by
      refine (List.mem_erase_of_ne ?_).mpr (hs z (.tail _ hz))
      rintro rfl
      exact hn'.1 hz
    have h2 := List.length_erase_of_mem hx
    have h3 := List.length_pos_of_mem hx
    simp only [List.length_cons]
    omega
section
variable {prog : Program} {w : World} {A : Around} {E : Value → Shared → Prop} {B : Bs} {L : Addr} {mg mb : Str → Option Value} {m : Str → Option Value} {mu : Led} {fz : Fz} {t u : Tok}
theorem reached_call {l : List UInt8} {U : List (List UInt8)} {Q : Value → Shared → Prop} (hU : Uni U) (hl : l ∈ U) (T : Tp mg mb fz) {k0 : Nat} (hA : Rm A (k0 + 3))
    (h : ∀ v ws fz', fz.le fz' → (TList TBy).R fz' v ws → RchW U ws → l ∈ ws → (∀ x ∈ ws, ∀ i j, canT x i j → turnB x i j ∈ ws) → ∀ s, Fs B L m mu fz' s → Q v s) :
    ∀ s, Fs B L m mu fz s → wpX (model prog w) A (call (.ref 89) [.bytes l.toArray t]) Q E s := by
  refine callX_fn (binds := [(Str.ofString "word", .bytes l.toArray t)]) (fun v fz' => ∃ ws, (TList TBy).R fz' v ws ∧ RchW U ws ∧ l ∈ ws ∧ (∀ x ∈ ws, ∀ i j, canT x i j → turnB x i j ∈ ws)) T T.f89 hA.rl (fun pm doc => rfl) (by rfl)
    (fun B' L' e _ => ?_) (fun v fz' hle hr => ?_)
  · subst e
    unfold mOf
    simp only [List.foldl_cons, List.foldl_nil]
    refine y_cons ?_
    refine y_any ?_
    refine x_assign ?_
    refine e_list ?_
    refine a_cons ?_
    refine e_loc (by repeat first | assumption | exact upd_same | refine upd_ne (by decide) ?_) ?_
    refine a_nil ?_
    refine p_newList (by simp) fun wd => ?_
    refine store ?_
    refine y_cons ?_
    refine y_any ?_
    refine x_assign ?_
    refine e_int ?_; intro _
    refine store ?_
    refine y_cons ?_
    rename_i td
    refine y_while (fun n m' mu' fz' => ∃ vs ws k d t ex, n = U.length - d ∧ m' (Str.ofString "words") = some (.ref wd) ∧ m' (Str.ofString "done") = some (.int (d : Nat) t) ∧ mu' = (wd, listOf vs.toArray k) :: ex ∧ B'.f0.le fz' ∧
      Al (TBy.R fz') vs ws ∧ RchW U ws ∧ l ∈ ws ∧ d ≤ ws.length ∧ ∀ p x, p < d → ws[p]? = some x → ∀ i j, canT x i j → turnB x i j ∈ ws) U.length ?_ ?_
    · exact ⟨_, [l], 0, 0, _, [], by omega, by repeat first | assumption | exact upd_same | refine upd_ne (by decide) ?_, by repeat first | assumption | exact upd_same | refine upd_ne (by decide) ?_, rfl, Fz.le_refl _, .cons ⟨_, rfl⟩ .nil, ⟨by simp, by simpa using hl⟩, by simp, by simp, fun p x hp => absurd hp (Nat.not_lt_zero _)⟩
    · rintro n m₁ mu₁ fz₁ ⟨vs, ws, k, d, t1, ex, rfl, g1, g2, rfl, hle1, g3, g4, g5, g6, g7⟩
      have T1 := T.mono hle1
      have hwl := nodup_le g4.nd g4.sub
      have hUs := hU.small
      have hvl := g3.length
      refine y_any ?_
      refine t_cmp ?_
      refine e_loc (by repeat first | assumption | exact upd_same | refine upd_ne (by decide) ?_) ?_
      refine e_call ?_
      refine e_bi (by assumption) (by rfl) ?_
      refine c_builtin ?_
      refine a_cons ?_
      refine e_loc (by repeat first | assumption | exact upd_same | refine upd_ne (by decide) ?_) ?_
      refine a_nil ?_
      refine k_len (.inr (.head _)) rfl k rfl (by show vs.toArray.size ≤ 16777216; simp; omega) fun t2 => ?_
      refine c_lt ?_
      refine tr_bool ?_
      refine brD (fun hlt => ?_) fun hlt => ?_
      · have hdl : d < ws.length := by simp at hlt; omega
        have hdv : d < vs.length := by omega
        obtain ⟨t3, e3⟩ := g3.get hdv hdl
        have h1U : ws[d] ∈ U := g4.sub _ (List.getElem_mem hdl)
        have h18 := hU.len _ h1U
        have hturn : ∀ ws' : List (List UInt8), (∀ y ∈ ws, y ∈ ws') → (∀ i j, canT ws[d] i j → turnB ws[d] i j ∈ ws') → ∀ p x, p < d + 1 → ws[p]? = some x → ∀ i j, canT x i j → turnB x i j ∈ ws' := by
          intro ws' hs ht p x hp hx i j hc
          by_cases hpd : p = d
          · subst hpd
            rw [List.getElem?_eq_getElem hdl] at hx
            cases hx
            exact ht i j hc
          · exact hs _ (g7 p x (by omega) hx i j hc)
        clear g7
        generalize hone : ws[d] = one at e3 h1U h18 hturn
        refine y_cons ?_
        refine y_any ?_
        refine x_assign ?_
        refine e_sub ?_
        refine e_loc (by repeat first | assumption | exact upd_same | refine upd_ne (by decide) ?_) ?_
        refine e_loc (by repeat first | assumption | exact upd_same | refine upd_ne (by decide) ?_) ?_
        refine p_item (.inr (.head _)) rfl rfl (by omega) (v := .bytes one.toArray t3) (by simp [hdv, e3]) (by omega) ?_
        refine store ?_
        refine y_cons ?_
        refine y_any ?_
        refine x_assign ?_
        refine e_bin ?_
        refine e_loc (by repeat first | assumption | exact upd_same | refine upd_ne (by decide) ?_) ?_
        refine e_int ?_; intro _
        refine i_add ?_; intro _
        refine store ?_
        refine y_cons ?_
        refine y_for0 ?_
        refine y_any ?_
        refine e_call ?_
        refine e_bi (by assumption) (by rfl) ?_
        refine c_type ?_
        refine a_cons ?_
        refine e_call ?_
        refine e_bi (by assumption) (by rfl) ?_
        refine c_builtin ?_
        refine a_cons ?_
        refine e_loc (by repeat first | assumption | exact upd_same | refine upd_ne (by decide) ?_) ?_
        refine a_nil ?_
        refine k_lenBytes (by simp; omega) fun t4 => ?_
        refine a_nil ?_
        refine k_range1 fun r1 t5 t6 t7 => ?_
        refine forX_range (n := 8) (J := fun i m' mu' fz' => ∃ vs' ws' k t, m' (Str.ofString "words") = some (.ref wd) ∧ m' (Str.ofString "done") = some (.int ((d + 1 : Nat)) t) ∧ m' (Str.ofString "one") = some (.bytes one.toArray t3) ∧ mu' = (wd, listOf vs'.toArray k) :: ex ∧ B'.f0.le fz' ∧
          Al (TBy.R fz') vs' ws' ∧ RchW U ws' ∧ ws.length ≤ ws'.length ∧ (∀ p, p < ws.length → ws'[p]? = ws[p]?) ∧ TurnsIn one ws' i 0) Fz.add_self (by rw [rangeSize_one, if_pos (by simp; omega)]; simp; omega) (small_up (by omega) (by omega) (by simp <;> omega) (by simp <;> omega)) hA.hh ?_ ?_ ?_
        · exact ⟨vs, ws, k, _, by repeat first | assumption | exact upd_same | refine upd_ne (by decide) ?_, by repeat first | assumption | exact upd_same | refine upd_ne (by decide) ?_, by repeat first | assumption | exact upd_same | refine upd_ne (by decide) ?_, rfl, Fz.le_trans hle1 Fz.le_add, g3.up Fz.le_add, g4, Nat.le_refl _, fun _ _ => rfl, fun i' j' _ hlt => by omega⟩
        · rintro st t8 m₂ mu₂ fz₂ ex2 hst hle2 ⟨vs2, ws2, k2, t9, f1, f2, f3, rfl, hle3, f4, f5, f6, f7, f8⟩
          have T2 := T.mono hle3
          have e0 : (0 : Int) + (st : Int) * 1 = (st : Int) := by omega
          rw [e0]
          refine y_cons ?_
          refine y_for0 ?_
          refine y_any ?_
          refine e_call ?_
          refine e_bi (by assumption) (by rfl) ?_
          refine c_type ?_
          refine a_cons ?_
          refine e_bin ?_
          refine e_loc (by repeat first | assumption | exact upd_same | refine upd_ne (by decide) ?_) ?_
          refine e_int ?_; intro _
          refine i_add ?_; intro _
          refine a_cons ?_
          refine e_bin ?_
          refine e_call ?_
          refine e_bi (by assumption) (by rfl) ?_
          refine c_builtin ?_
          refine a_cons ?_
          refine e_loc (by repeat first | assumption | exact upd_same | refine upd_ne (by decide) ?_) ?_
          refine a_nil ?_
          refine k_lenBytes (by simp; omega) fun t10 => ?_
          refine e_int ?_; intro _
          refine i_add ?_; intro _
          refine a_nil ?_
          refine k_range2 fun r2 t11 t12 t13 => ?_
          refine forX_range (n := 5 - st) (J := fun i m' mu' fz' => ∃ vs' ws' k t, m' (Str.ofString "words") = some (.ref wd) ∧ m' (Str.ofString "done") = some (.int ((d + 1 : Nat)) t) ∧ m' (Str.ofString "one") = some (.bytes one.toArray t3) ∧ m' (Str.ofString "start") = some (.int st t8) ∧ mu' = (wd, listOf vs'.toArray k) :: (ex ++ ex2) ∧ B'.f0.le fz' ∧
            Al (TBy.R fz') vs' ws' ∧ RchW U ws' ∧ ws.length ≤ ws'.length ∧ (∀ p, p < ws.length → ws'[p]? = ws[p]?) ∧ TurnsIn one ws' st (st + 4 + i)) Fz.add_self (by rw [rangeSize_one]; simp; split <;> omega) (small_up (by omega) (by omega) (by simp <;> omega) (by simp <;> omega)) hA.hh ?_ ?_ ?_
          · refine ⟨vs2, ws2, k2, t9, by repeat first | assumption | exact upd_same | refine upd_ne (by decide) ?_, by repeat first | assumption | exact upd_same | refine upd_ne (by decide) ?_, by repeat first | assumption | exact upd_same | refine upd_ne (by decide) ?_, by repeat first | assumption | exact upd_same | refine upd_ne (by decide) ?_, rfl, Fz.le_trans hle3 Fz.le_add, f4.up Fz.le_add, f5, f6, f7, fun i' j' hc hlt => ?_⟩
            rcases hlt with hlt | ⟨rfl, hlt⟩
            · exact f8 i' j' hc (.inl hlt)
            · have := hc.1; omega
          · rintro i t14 m₃ mu₃ fz₃ ex3 hi hle4 ⟨vs3, ws3, k3, t15, q1, q2, q3, q4, rfl, hle5, q5, q6, q7, q8, q9⟩
            have T3 := T.mono hle5
            have e1 : (st : Int) + 4 + (i : Int) * 1 = ((st + 4 + i : Nat) : Int) := by omega
            rw [e1]
            generalize hend : st + 4 + i = en at q9
            have en8 : en ≤ 8 := by omega
            refine y_cons ?_
            refine y_if ?_
            refine y_any ?_
            refine t_cmp ?_
            refine e_sub ?_
            refine e_loc (by repeat first | assumption | exact upd_same | refine upd_ne (by decide) ?_) ?_
            refine e_loc (by repeat first | assumption | exact upd_same | refine upd_ne (by decide) ?_) ?_
            refine p_byteAt (by omega) (by omega) (by omega) fun t16 => ?_
            refine e_sub ?_
            refine e_loc (by repeat first | assumption | exact upd_same | refine upd_ne (by decide) ?_) ?_
            refine e_bin ?_
            refine e_loc (by repeat first | assumption | exact upd_same | refine upd_ne (by decide) ?_) ?_
            refine e_int ?_; intro _
            refine i_sub ?_; intro _
            refine p_byteAt (by omega) (by omega) (by omega) fun t17 => ?_
            refine c_eq ?_
            refine tr_bool ?_
            have e2 : ((en : Int) - 1).toNat = en - 1 := by omega
            have e3' : (st : Int).toNat = st := by omega
            rw [e2, e3']
            by_cases heq : one.getD st 0 = one.getD (en - 1) 0
            · refine brT (by rw [heq]; simp) ?_
              have hcan : canT one st en := ⟨by omega, en8, heq⟩
              refine y_cons ?_
              refine y_assign ?_
              refine y_bin ?_
              refine y_bin ?_
              refine y_any ?_
              refine e_sub ?_
              refine e_loc (by repeat first | assumption | exact upd_same | refine upd_ne (by decide) ?_) ?_
              refine e_slice ?_
              refine ep_none ?_
              refine ep_some ?_
              refine e_loc (by repeat first | assumption | exact upd_same | refine upd_ne (by decide) ?_) ?_
              refine ep_none ?_
              refine p_slObj ?_; intro _
              refine p_cutB (lo := none) (hi := some (st : Nat)) Fz.add_self .none (.int _ _) (by omega) fun t18 => ?_
              rw [pickTo]
              refine y_call ?_
              refine y_any ?_
              refine e_glob (by assumption) (by rfl) ?_
              refine y_fn T.f72 ?_
              refine a_cons ?_
              refine e_sub ?_
              refine e_loc (by repeat first | assumption | exact upd_same | refine upd_ne (by decide) ?_) ?_
              refine e_slice ?_
              refine ep_some ?_
              refine e_loc (by repeat first | assumption | exact upd_same | refine upd_ne (by decide) ?_) ?_
              refine ep_some ?_
              refine e_loc (by repeat first | assumption | exact upd_same | refine upd_ne (by decide) ?_) ?_
              refine ep_none ?_
              refine p_slObj ?_; intro _
              refine p_cutB (lo := some (st : Nat)) (hi := some (en : Nat)) Fz.add_self (.int _ _) (.int _ _) (by omega) fun t19 => ?_
              rw [pickMid _ _ _ (by omega) (by omega)]
              refine a_cons ?_
              refine e_bin ?_
              refine e_loc (by repeat first | assumption | exact upd_same | refine upd_ne (by decide) ?_) ?_
              refine e_loc (by repeat first | assumption | exact upd_same | refine upd_ne (by decide) ?_) ?_
              refine i_sub ?_; intro _
              refine a_nil ?_
              refine l_fl ?_
              rw [show ((en : Int) - st) = ((List.take (en - st) (List.drop st one)).length : Int) by simp; omega]
              have hrm := hA.dn (env := envOf (sName (topS 17)) (sScope (topS 17)) L' 89 (.ref 88))
              refine swap_call (T3.mono (by repeat first | exact Fz.le_refl _ | refine Fz.le_trans ?_ Fz.le_add)) hrm.hh hrm.lt (by simp; omega) (by simp; omega) fun t20 => ?_
              refine y_any ?_
              skip
              refine p_addB (by simp; omega) fun t21 => ?_
              refine y_any ?_
              refine e_sub ?_
              refine e_loc (by repeat first | assumption | exact upd_same | refine upd_ne (by decide) ?_) ?_
              refine e_slice ?_
              refine ep_some ?_
              refine e_loc (by repeat first | assumption | exact upd_same | refine upd_ne (by decide) ?_) ?_
              refine ep_none ?_
              refine ep_none ?_
              refine p_slObj ?_; intro _
              refine p_cutB (lo := some (en : Nat)) (hi := none) Fz.add_self (.int _ _) .none (by omega) fun t22 => ?_
              rw [pickFrom]
              refine y_any ?_
              refine p_addB (by simp; omega) fun t23 => ?_
              refine y_any ?_
              refine store ?_
              have htu : turnB one st en ∈ U := hU.cl _ h1U _ _ hcan
              have htB : List.take st one ++ (List.take (en - st) (List.drop st one)).reverse ++ List.drop en one = turnB one st en := rfl
              rw [htB]
              refine y_any ?_
              refine x_cons ?_
              refine x_if ?_
              refine t_cmp ?_
              refine e_loc (by repeat first | assumption | exact upd_same | refine upd_ne (by decide) ?_) ?_
              refine e_loc (by repeat first | assumption | exact upd_same | refine upd_ne (by decide) ?_) ?_
              refine p_notIn TBy hrm (by decide) (.inr (.head _)) (q5.up (by repeat first | exact Fz.le_refl _ | refine Fz.le_trans ?_ Fz.le_add)) (x := turnB one st en) ⟨_, rfl⟩ ?_
              refine tr_bool ?_
              by_cases hin : turnB one st en ∈ ws3
              · refine brF (by simp [hin]) ?_
                refine x_nil ?_
                refine x_nil ?_
                refine y_nil ?_
                refine fun s S => TurnPost.next (mu := (wd, _) :: (ex ++ ex2)) S (by repeat first | exact Fz.le_refl _ | refine Fz.le_trans ?_ Fz.le_add) ⟨_, ws3, _, t15, by repeat first | assumption | exact upd_same | refine upd_ne (by decide) ?_, by repeat first | assumption | exact upd_same | refine upd_ne (by decide) ?_, by repeat first | assumption | exact upd_same | refine upd_ne (by decide) ?_, by repeat first | assumption | exact upd_same | refine upd_ne (by decide) ?_, rfl, Fz.le_trans hle5 (by repeat first | exact Fz.le_refl _ | refine Fz.le_trans ?_ Fz.le_add), q5.up (by repeat first | exact Fz.le_refl _ | refine Fz.le_trans ?_ Fz.le_add), q6, q7, q8, fun i' j' hc hlt => ?_⟩
                rcases hlt with hlt | ⟨rfl, hlt⟩
                · exact q9 i' j' hc (.inl hlt)
                · by_cases he : j' = en
                  · subst he; exact hin
                  · exact q9 i' j' hc (.inr ⟨rfl, by omega⟩)
              · refine brT (by simp [hin]) ?_
                refine x_cons ?_
                refine x_expr ?_
                refine e_appendL (pre := []) (l := wd) (by repeat first | assumption | exact upd_same | refine upd_ne (by decide) ?_) ?_
                refine e_loc (by repeat first | assumption | exact upd_same | refine upd_ne (by decide) ?_) ?_
                refine p_app (pre := []) (by have := q5.length; have := nodup_le q6.nd q6.sub; omega) ?_
                refine x_nil ?_
                refine x_nil ?_
                refine y_nil ?_
                refine fun s S => TurnPost.next (mu := (wd, _) :: (ex ++ ex2)) S (by repeat first | exact Fz.le_refl _ | refine Fz.le_trans ?_ Fz.le_add) ⟨_, ws3 ++ [turnB one st en], _, t15, by repeat first | assumption | exact upd_same | refine upd_ne (by decide) ?_, by repeat first | assumption | exact upd_same | refine upd_ne (by decide) ?_, by repeat first | assumption | exact upd_same | refine upd_ne (by decide) ?_, by repeat first | assumption | exact upd_same | refine upd_ne (by decide) ?_, rfl, Fz.le_trans hle5 (by repeat first | exact Fz.le_refl _ | refine Fz.le_trans ?_ Fz.le_add), (q5.up (by repeat first | exact Fz.le_refl _ | refine Fz.le_trans ?_ Fz.le_add)).snoc ⟨_, rfl⟩, ?_, ?_, ?_, fun i' j' hc hlt => ?_⟩
                · refine ⟨?_, fun x hx => ?_⟩
                  · rw [List.nodup_append]
                    exact ⟨q6.nd, by simp, fun a ha b hb e => by rw [List.mem_singleton.mp hb] at e; subst e; exact hin ha⟩
                  · rcases List.mem_append.mp hx with hx | hx
                    · exact q6.sub x hx
                    · rw [List.mem_singleton.mp hx]; exact htu
                · rw [List.length_append]; omega
                · intro p hp
                  rw [List.getElem?_append_left (by omega)]
                  exact q8 p hp
                · rcases hlt with hlt | ⟨rfl, hlt⟩
                  · exact List.mem_append_left _ (q9 i' j' hc (.inl hlt))
                  · by_cases he : j' = en
                    · subst he; exact List.mem_append_right _ (.head _)
                    · exact List.mem_append_left _ (q9 i' j' hc (.inr ⟨rfl, by omega⟩))
            · refine brF (beq_eq_false_iff_ne.mpr fun e => heq (UInt8.toNat_inj.mp (Int.ofNat.inj e))) ?_
              refine y_nil ?_
              refine y_nil ?_
              refine fun s S => TurnPost.next (mu := (wd, _) :: (ex ++ ex2)) S (Fz.le_refl _) ⟨_, ws3, _, t15, by repeat first | assumption | exact upd_same | refine upd_ne (by decide) ?_, by repeat first | assumption | exact upd_same | refine upd_ne (by decide) ?_, by repeat first | assumption | exact upd_same | refine upd_ne (by decide) ?_, by repeat first | assumption | exact upd_same | refine upd_ne (by decide) ?_, rfl, hle5, q5, q6, q7, q8, fun i' j' hc hlt => ?_⟩
              rcases hlt with hlt | ⟨rfl, hlt⟩
              · exact q9 i' j' hc (.inl hlt)
              · by_cases he : j' = en
                · subst he; exact absurd hc.2.2 heq
                · exact q9 i' j' hc (.inr ⟨rfl, by omega⟩)
          · rintro m₃ mu₃ fz₃ hle4 ⟨vs3, ws3, k3, t15, q1, q2, q3, q4, rfl, hle5, q5, q6, q7, q8, q9⟩
            refine y_nil ?_
            refine fun s S => TurnPost.next (mu := (wd, _) :: ex) S (Fz.le_trans Fz.le_add hle4) ⟨_, ws3, _, t15, q1, q2, q3, rfl, hle5, q5, q6, q7, q8, fun i' j' hc hlt => ?_⟩
            by_cases he : i' = st
            · subst he
              exact q9 i' j' hc (.inr ⟨rfl, by have := hc.1; have := hc.2.1; omega⟩)
            · exact q9 i' j' hc (.inl (by omega))
        · rintro m₂ mu₂ fz₂ hle2 ⟨vs2, ws2, k2, t9, f1, f2, f3, rfl, hle3, f4, f5, f6, f7, f8⟩
          refine y_nil ?_
          refine fun s S => wnext S (n' := U.length - (d + 1)) (by omega) ⟨vs2, ws2, k2, d + 1, t9, ex, rfl, f1, f2, rfl, hle3, f4, f5, ?_, by omega, ?_⟩
          · obtain ⟨p, hp, hpe⟩ := List.getElem_of_mem g5
            have := f7 p hp
            rw [List.getElem?_eq_getElem hp, hpe] at this
            exact List.mem_of_getElem? this
          · have hsub : ∀ y ∈ ws, y ∈ ws2 := by
              intro y hy
              obtain ⟨p, hp, hpe⟩ := List.getElem_of_mem hy
              have := f7 p hp
              rw [List.getElem?_eq_getElem hp, hpe] at this
              exact List.mem_of_getElem? this
            intro p x hp hx
            refine hturn ws2 hsub (fun i j hc => f8 i j hc (.inl (by have := hc.1; have := hc.2.1; omega))) p x hp ?_
            rw [← f7 p (by omega)]
            exact hx
      · have hdl : d = ws.length := by simp at hlt; omega
        refine y_any ?_
        refine x_cons ?_
        refine x_ret ?_
        refine e_loc (by repeat first | assumption | exact upd_same | refine upd_ne (by decide) ?_) ?_
        refine fzL ?_
        refine fun s S => Ret.mk S ⟨ws, TList.of Fz.add_self (g3.up Fz.le_add), g4, g5, fun x hx i j hc => ?_⟩
        obtain ⟨p, hp, hpe⟩ := List.getElem_of_mem hx
        exact g7 p x (by omega) (by rw [List.getElem?_eq_getElem hp, hpe]) i j hc
  · obtain ⟨ws, h1, h2, h3, h4⟩ := hr
    exact h v ws fz' hle h1 h2 h3 h4
end
-- text PL2
section
section
variable {α : Type} [DecidableEq α]
noncomputable def uldStep (st : List α × List α) (x : α) : List α × List α := if x ∈ st.2 then (st.1, st.2.erase x) else (st.1 ++ [x], st.2)
noncomputable def uldF (b r : List α) : List α × List α := r.foldl uldStep ([], b)
noncomputable def uld (a b : List α) : List α × List α := uldF b a.reverse
noncomputable abbrev cn (l : List α) (x : α) : Nat := l.countP fun y => decide (y = x)
noncomputable def keepF (c : α → Nat) : List α → List α
  | [] => []
  | x :: l => if 0 < c x then keepF (fun y => if y = x then c y - 1 else c y) l else x :: keepF c l
theorem keepF_erase (y : α) : ∀ (l : List α) (c : α → Nat), keepF (fun z => if z = y then c z + 1 else c z) l = (keepF c l).erase y := by
  intro l
  induction l with
  | nil => intro c; rfl
  | cons x l ih =>
    intro c
    unfold keepF
    by_cases h0 : 0 < c x
    · have h1 : 0 < (if x = y then c x + 1 else c x) := by split <;> omega
      rw [if_pos h0, if_pos h1, ← ih]
      congr 1
      funext z
      by_cases hzx : z = x <;> by_cases hzy : z = y
      · subst hzx; subst hzy; simp; omega
      · subst hzx; simp [hzy]
      · subst hzy; simp [hzx]
      · simp [hzx, hzy]
    · rw [if_neg h0]
      by_cases hxy : x = y
      · subst hxy
        rw [if_pos (by simp), List.erase_cons_head]
        congr 1
        funext z
        by_cases hz : z = x
        · subst hz; simp
        · simp [hz]
      · rw [if_neg (by simp [hxy]; omega), ih, List.erase_cons_tail (by simpa using hxy)]
theorem cn_cons (x z : α) (l : List α) : cn (x :: l) z = cn l z + if x = z then 1 else 0 := by
  unfold cn
  rw [List.countP_cons]
  simp
theorem cn_append (l l' : List α) (z : α) : cn (l ++ l') z = cn l z + cn l' z := List.countP_append
theorem keepF_mem (z : α) : ∀ (l : List α) (c : α → Nat), z ∈ keepF c l ↔ c z < cn l z := by
  intro l
  induction l with
  | nil => intro c; simp [keepF, cn]
  | cons x l ih =>
    intro c
    rw [cn_cons]
    unfold keepF
    by_cases h0 : 0 < c x
    · rw [if_pos h0, ih]
      by_cases hz : z = x
      · subst hz; simp; omega
      · have : ¬ x = z := fun e => hz e.symm
        simp [hz, this]
    · rw [if_neg h0, List.mem_cons, ih]
      by_cases hz : z = x
      · subst hz; simp; omega
      · have : ¬ x = z := fun e => hz e.symm
        simp [hz, this]
theorem keepF_snoc (x : α) : ∀ (l : List α) (c : α → Nat), keepF c (l ++ [x]) = keepF c l ++ if c x < cn (l ++ [x]) x then [x] else [] := by
  intro l
  induction l with
  | nil =>
    intro c
    simp only [List.nil_append, keepF]
    by_cases h0 : 0 < c x
    · rw [if_pos h0, if_neg (by simp [cn]; omega)]
    · rw [if_neg h0, if_pos (by simp [cn]; omega)]
  | cons y l ih =>
    intro c
    rw [List.cons_append, cn_cons]
    unfold keepF
    by_cases h0 : 0 < c y
    · rw [if_pos h0, if_pos h0, ih]
      congr 1
      by_cases hxy : x = y
      · subst hxy
        have e : (c x - 1 < cn (l ++ [x]) x) ↔ (c x < cn (l ++ [x]) x + 1) := by omega
        rw [if_pos rfl, if_pos rfl]
        simp only [e]
      · have h2 : ¬ y = x := fun e => hxy e.symm
        simp only [hxy, h2, if_false, Nat.add_zero]
    · rw [if_neg h0, if_neg h0, ih, List.cons_append]
      congr 2
      by_cases hxy : y = x
      · subst hxy
        have hp : 0 < cn (l ++ [y]) y := by rw [cn_append, cn_cons]; simp
        rw [if_pos (by omega), if_pos (by simp; omega)]
      · simp only [hxy, if_false, Nat.add_zero]
theorem keepF_zero : ∀ (l : List α), keepF (fun _ => 0) l = l := by
  intro l
  induction l with
  | nil => rfl
  | cons x l ih => unfold keepF; rw [if_neg (by omega), ih]
theorem uldF_snoc (b r : List α) (x : α) : uldF b (r ++ [x]) = uldStep (uldF b r) x := by
  unfold uldF
  rw [List.foldl_append]
  rfl
theorem snoc_ind {P : List α → Prop} (h0 : P []) (h1 : ∀ l x, P l → P (l ++ [x])) : ∀ l, P l := by
  have H : ∀ l : List α, P l.reverse := by
    intro l
    induction l with
    | nil => exact h0
    | cons x l ih => rw [List.reverse_cons]; exact h1 _ _ ih
  intro l
  have := H l.reverse
  rwa [List.reverse_reverse] at this
theorem cn_snoc (r : List α) (x : α) : (fun z => if z = x then cn r z + 1 else cn r z) = cn (r ++ [x]) := by
  funext z
  rw [cn_append, cn_cons]
  by_cases hz : z = x
  · subst hz; simp [cn]
  · have h2 : ¬ x = z := fun e => hz e.symm
    simp [hz, h2, cn]
theorem uldF_rest (b : List α) : ∀ r, (uldF b r).2 = keepF (cn r) b := by
  refine snoc_ind ?_ fun r x ih => ?_
  · show b = keepF (fun _ => 0) b
    exact (keepF_zero b).symm
  · rw [uldF_snoc, ← cn_snoc, keepF_erase, ← ih]
    unfold uldStep
    split
    · rfl
    · rename_i h
      exact (List.erase_of_not_mem h).symm
theorem uldF_miss (b r : List α) (x : α) : (uldF b (r ++ [x])).1 = (uldF b r).1 ++ if cn b x < cn (r ++ [x]) x then [x] else [] := by
  have hm : x ∈ (uldF b r).2 ↔ cn r x < cn b x := by rw [uldF_rest, keepF_mem]
  have hc : cn (r ++ [x]) x = cn r x + 1 := by rw [cn_append, cn_cons]; simp [cn]
  rw [uldF_snoc]
  unfold uldStep
  by_cases h : x ∈ (uldF b r).2
  · have := hm.mp h
    rw [if_pos h, if_neg (by omega), List.append_nil]
  · have h2 : ¬ cn r x < cn b x := fun q => h (hm.mpr q)
    rw [if_neg h, if_pos (by omega)]
theorem uldF_len (b : List α) : ∀ r, (uldF b r).1.length ≤ r.length := by
  refine snoc_ind (Nat.le_refl _) fun r x ih => ?_
  rw [uldF_miss, List.length_append, List.length_append]
  split <;> simp <;> omega
theorem keepF_len : ∀ (l : List α) (c : α → Nat), (keepF c l).length ≤ l.length := by
  intro l
  induction l with
  | nil => intro c; exact Nat.le_refl _
  | cons x l ih =>
    intro c
    unfold keepF
    split
    · exact Nat.le_trans (ih _) (Nat.le_succ _)
    · exact Nat.succ_le_succ (ih _)
theorem cn_perm {l l' : List α} (h : l.Perm l') (z : α) : cn l z = cn l' z := h.countP_eq _
theorem uldF_perm (b : List α) : ∀ r, ((uldF b r).1 ++ b).Perm (r ++ (uldF b r).2) := by
  refine snoc_ind ?_ fun r x ih => ?_
  · exact List.Perm.refl _
  · rw [uldF_snoc]
    unfold uldStep
    split
    · rename_i h
      refine ih.trans ?_
      rw [List.append_assoc]
      exact (List.perm_cons_erase h).append_left r
    · show (((uldF b r).1 ++ [x]) ++ b).Perm ((r ++ [x]) ++ (uldF b r).2)
      rw [List.append_assoc, List.append_assoc]
      refine List.perm_middle.trans ?_
      refine (List.Perm.cons x ih).trans ?_
      exact List.perm_middle.symm
theorem uld_none {a b : List α} : uld a b = ([], []) ↔ a.Perm b := by
  have h := uldF_perm b a.reverse
  constructor
  · intro e
    unfold uld at e
    rw [e, List.nil_append, List.append_nil] at h
    exact (h.trans (List.reverse_perm a)).symm
  · intro p
    have h2 : (uldF b a.reverse).2 = [] := by
      rw [uldF_rest]
      refine List.eq_nil_iff_forall_not_mem.mpr fun z hz => ?_
      rw [keepF_mem, cn_perm (List.reverse_perm a), cn_perm p] at hz
      omega
    rw [h2, List.append_nil] at h
    have hl := h.length_eq
    have hp := p.length_eq
    rw [List.length_append, List.length_reverse] at hl
    have h1 : (uldF b a.reverse).1 = [] := List.eq_nil_of_length_eq_zero (by omega)
    unfold uld
    exact Prod.ext h1 h2
/-- the first loop of the told: the i-th from the end -/
theorem miss_step {a b : List α} {i : Nat} (hi : i < a.length) :
    (uldF b (a.reverse.take (i + 1))).1 = (uldF b (a.reverse.take i)).1 ++ if cn b (a[a.length - 1 - i]'(by omega)) < cn (a.drop (a.length - 1 - i)) (a[a.length - 1 - i]'(by omega)) then [a[a.length - 1 - i]'(by omega)] else [] := by
  have e1 : a.reverse.take (i + 1) = a.reverse.take i ++ [a[a.length - 1 - i]'(by omega)] := by
    rw [List.take_add_one, List.getElem?_reverse hi, List.getElem?_eq_getElem (by omega)]
    rfl
  have e2 : a.reverse.take (i + 1) = (a.drop (a.length - 1 - i)).reverse := by
    rw [List.take_reverse]
    congr 2
    omega
  rw [e1, uldF_miss, ← e1, e2, cn_perm (List.reverse_perm _)]
theorem miss_stepP {a b : List α} {i p : Nat} (hi : i < a.length) (hp : p < a.length) (e : p = a.length - 1 - i) :
    (uldF b (a.reverse.take (i + 1))).1 = (uldF b (a.reverse.take i)).1 ++ if cn b a[p] < cn (a.drop p) a[p] then [a[p]] else [] := by
  subst e
  exact miss_step hi
theorem keep_step {a b : List α} {i : Nat} (hi : i < b.length) :
    keepF (cn a) (b.take (i + 1)) = keepF (cn a) (b.take i) ++ if cn a b[i] < cn (b.take (i + 1)) b[i] then [b[i]] else [] := by
  have e1 : b.take (i + 1) = b.take i ++ [b[i]] := by
    rw [List.take_add_one, List.getElem?_eq_getElem hi]
    rfl
  rw [e1, keepF_snoc]
theorem uld_rest (a b : List α) : (uld a b).2 = keepF (cn a) b := by
  unfold uld
  rw [uldF_rest]
  congr 1
  funext z
  exact cn_perm (List.reverse_perm a) z
end
end
-- text ML6
section
variable {α : Type} [DecidableEq α]
theorem uldStep_in {zs ys : List α} {x : α} (h : x ∈ ys) : ∃ j, ∃ hj : j < ys.length, ys[j] = x ∧ (∀ i (hi : i < ys.length), i < j → ys[i] ≠ x) ∧ uldStep (zs, ys) x = (zs, ys.eraseIdx j) := by
  refine ⟨ys.idxOf x, List.idxOf_lt_length_iff.mpr h, List.getElem_idxOf _, fun i hi hij e => ?_, ?_⟩
  · have := List.not_of_lt_findIdx (p := (· == x)) hij
    simp [e] at this
  · unfold uldStep
    rw [if_pos h]
    exact congrArg _ (List.erase_eq_eraseIdx_of_idxOf rfl)
omit [DecidableEq α] in
theorem al_last {R : Value → α → Prop} {vs : List Value} {xs : List α} (h : Al R vs xs) (hv : vs ≠ []) : ∃ vs0 v xs0 x, vs = vs0 ++ [v] ∧ xs = xs0 ++ [x] ∧ Al R vs0 xs0 ∧ R v x := by
  have hx : xs ≠ [] := by
    rintro rfl
    have := h.length
    exact hv (List.eq_nil_of_length_eq_zero this)
  have hl := h.length
  have h1 := h.dropLast
  have e1 := (List.dropLast_concat_getLast hv).symm
  have e2 := (List.dropLast_concat_getLast hx).symm
  refine ⟨_, _, _, _, e1, e2, h1, ?_⟩
  have hp : 0 < vs.length := List.length_pos_iff.mpr hv
  have := h.get (i := vs.length - 1) (by omega) (by omega)
  rw [List.getLast_eq_getElem, List.getLast_eq_getElem]
  have e3 : xs[xs.length - 1]'(by omega) = xs[vs.length - 1]'(by omega) := by congr 1; omega
  rw [e3]
  exact this
end
section
variable {prog : Program} {w : World} {A : Around} {E : Value → Shared → Prop} {B : Bs} {L : Addr} {mg mb : Str → Option Value} {m : Str → Option Value} {mu : Led} {fz : Fz} {t u : Tok}
noncomputable abbrev TPs : Ty (List (Int × Int) × List (Int × Int)) := TTup (TList TPr) (TList TPr)
theorem uld_call {a b : Addr} {vs ws : List Value} {xs ys : List (Int × Int)} {n k : Nat} {Q : Value → Shared → Prop} (T : Tp mg mb fz) {k0 : Nat} (hA : Rm A (k0 + 2)) (hfr : FrOk A (L :: B.fs)) (hx : Al (TPr.R fz) vs xs) (hy : Al (TPr.R fz) ws ys) (hzx : xs.length ≤ 1000) (hzy : ys.length ≤ 1000)
    (h : ∀ v fz', fz.le fz' → TPs.R fz' v (uld xs ys) → (TList TPr).R fz' (.ref a) [] → (TList TPr).R fz' (.ref b) (uld xs ys).2 → ∀ s, Fs B L m mu fz' s → Q v s) :
    ∀ s, Fs B L m ((a, listOf vs.toArray n) :: (b, listOf ws.toArray k) :: mu) fz s → wpAny (model prog w) A (call (.ref 28) [.ref a, .ref b]) Q E s := by
  refine callO_fn (ex := [(a, listOf vs.toArray n), (b, listOf ws.toArray k)]) (binds := [(Str.ofString "expected", .ref a), (Str.ofString "actual", .ref b)])
    (fun v mu' fz' => mu' = [] ∧ TPs.R fz' v (uld xs ys) ∧ (TList TPr).R fz' (.ref a) [] ∧ (TList TPr).R fz' (.ref b) (uld xs ys).2) T T.f28 hA.rl (fun pm doc => rfl) (by rfl)
    (fun B' L' e hfs => ?_) (fun v mu' fz' hle hr => ?_)
  · subst e
    have hfr' : FrOk (A.deeper (envOf (sName (topS 2)) (sScope (topS 2)) L' 28 (.ref 27))) (L' :: B'.fs) := by rw [hfs]; exact hfr.deeper rfl rfl
    have hfr0 : ∃ l, (A.deeper (envOf (sName (topS 2)) (sScope (topS 2)) L' 28 (.ref 27))).frames = some (envOf (sName (topS 2)) (sScope (topS 2)) L' 28 (.ref 27) :: l) := by
      obtain ⟨l0, hl0, _⟩ := hfr
      exact ⟨l0, Around.frames_deeper hl0⟩
    have hrm := hA.dn (env := envOf (sName (topS 2)) (sScope (topS 2)) L' 28 (.ref 27))
    unfold mOf
    simp only [List.foldl_cons, List.foldl_nil]
    refine x_cons ?_
    refine x_assign ?_
    refine e_list ?_
    refine a_nil ?_
    refine p_newList (by simp) fun mm => ?_
    refine store ?_
    refine x_cons ?_
    refine x_while (fun N m' mu' fz' => ∃ vs' xs' n' ws' ys' k' ms zs j, N = xs'.length ∧ m' (Str.ofString "expected") = some (.ref a) ∧ m' (Str.ofString "actual") = some (.ref b) ∧ m' (Str.ofString "missing") = some (.ref mm) ∧
      mu' = [(mm, listOf ms.toArray j), (a, listOf vs'.toArray n'), (b, listOf ws'.toArray k')] ∧ B'.f0.le fz' ∧ Al (TPr.R fz') vs' xs' ∧ Al (TPr.R fz') ws' ys' ∧ Al (TPr.R fz') ms zs ∧ xs'.length + zs.length ≤ xs.length ∧ ys'.length ≤ ys.length ∧
      xs'.reverse.foldl uldStep (zs, ys') = uld xs ys) xs.length ?_ ?_
    · exact ⟨vs, xs, n, ws, ys, k, [], [], 0, rfl, by repeat first | assumption | exact upd_same | refine upd_ne (by decide) ?_, by repeat first | assumption | exact upd_same | refine upd_ne (by decide) ?_, by repeat first | assumption | exact upd_same | refine upd_ne (by decide) ?_, rfl, Fz.le_refl _, hx, hy, .nil, by simp, Nat.le_refl _, rfl⟩
    · rintro N m₁ mu₁ fz₁ ⟨vs', xs', n', ws', ys', k', ms, zs, j, rfl, g1, g2, g3, rfl, hle1, g4, g5, g6, g7, g8, g9⟩
      have T1 := T.mono hle1
      have l4 := g4.length
      have l5 := g5.length
      have l6 := g6.length
      refine t_name ?_
      refine e_loc (by repeat first | assumption | exact upd_same | refine upd_ne (by decide) ?_) ?_
      refine p_truthL (.inr (.tail _ (.head _))) (by omega) ?_
      refine brD (fun hne => ?_) fun he => ?_
      · obtain ⟨vs0, v, xs0, x, rfl, rfl, h40, hvx⟩ := al_last g4 hne
        have l40 := h40.length
        have g7' := g7
        rw [List.length_append, List.length_singleton] at g7'
        refine x_cons ?_
        refine x_assign ?_
        refine e_meth0 ?_
        refine e_loc (by repeat first | assumption | exact upd_same | refine upd_ne (by decide) ?_) ?_
        refine p_pop (name := Str.ofString "pop") (pre := [(mm, _)]) (by omega) fun n1 => ?_
        refine store ?_
        refine x_cons ?_
        rw [List.reverse_append, List.reverse_cons, List.reverse_nil, List.nil_append, List.singleton_append, List.foldl_cons] at g9
        by_cases hin : x ∈ ys'
        · obtain ⟨q, hix, hq, hno, hst⟩ := uldStep_in (zs := zs) hin
          rw [hst] at g9
          refine x_try False hfr' hfr0 rfl rfl ?_ ?_ ?_
          · refine x_cons ?_
            refine x_expr ?_
            refine e_meth1 ?_
            refine e_loc (by repeat first | assumption | exact upd_same | refine upd_ne (by decide) ?_) ?_
            refine m_list1 F.slot_list_remove F.type_list_remove (.inr (.tail _ (.tail _ (.head _)))) ?_
            refine e_loc (by repeat first | assumption | exact upd_same | refine upd_ne (by decide) ?_) ?_
            refine p_remove TPr (pre := [(mm, _), (a, _)]) hrm (by decide) (by omega) g5 hvx hix hq hno fun k1 => ?_
            refine x_nil ?_
            refine x_nil ?_
            exact fun s S => wnext S (n' := xs0.length) (by simp) ⟨vs0, xs0, _, ws'.eraseIdx q, ys'.eraseIdx q, _, ms, zs, j, rfl, by repeat first | assumption | exact upd_same | refine upd_ne (by decide) ?_, by repeat first | assumption | exact upd_same | refine upd_ne (by decide) ?_, by repeat first | assumption | exact upd_same | refine upd_ne (by decide) ?_, rfl, hle1, h40, g5.eraseIdx q, g6, by omega, Nat.le_trans (List.length_eraseIdx_le _ _) g8, g9⟩
          · exact fun A' E' Q' s S hq => e_biS T (by rfl) S hq
          · exact fun h => h.elim
        · have hst : uldStep (zs, ys') x = (zs ++ [x], ys') := by
            unfold uldStep
            rw [if_neg hin]
          rw [hst] at g9
          refine x_try True hfr' hfr0 rfl rfl ?_ ?_ ?_
          · refine x_cons ?_
            refine x_expr ?_
            refine e_meth1 ?_
            refine e_loc (by repeat first | assumption | exact upd_same | refine upd_ne (by decide) ?_) ?_
            refine m_list1 F.slot_list_remove F.type_list_remove (.inr (.tail _ (.tail _ (.head _)))) ?_
            refine e_loc (by repeat first | assumption | exact upd_same | refine upd_ne (by decide) ?_) ?_
            refine p_removeNone TPr hrm (by decide) (.tail _ (.tail _ (.head _))) g5 hvx hin fun e h' tk s S hx' => ?_
            exact ⟨s, e, h', tk, rfl, S, hx', trivial, rfl⟩
          · exact fun A' E' Q' s S hq => e_biS T (by rfl) S hq
          · intro _ e
            refine x_cons ?_
            refine x_expr ?_
            refine e_appendL (pre := []) (l := mm) (by repeat first | assumption | exact upd_same | refine upd_ne (by decide) ?_) ?_
            refine e_loc (by repeat first | assumption | exact upd_same | refine upd_ne (by decide) ?_) ?_
            refine p_app (pre := []) (by omega) ?_
            refine x_nil ?_
            refine x_nil ?_
            exact fun s S => wnext S (n' := xs0.length) (by simp) ⟨vs0, xs0, _, ws', ys', _, ms ++ [v], zs ++ [x], _, rfl, by repeat first | assumption | exact upd_same | refine upd_ne (by decide) ?_, by repeat first | assumption | exact upd_same | refine upd_ne (by decide) ?_, by repeat first | assumption | exact upd_same | refine upd_ne (by decide) ?_, rfl, hle1, h40, g5, g6.snoc hvx, by simp; omega, g8, g9⟩
      · obtain rfl : vs' = [] := Classical.byContradiction he
        obtain rfl : xs' = [] := List.eq_nil_of_length_eq_zero l4.symm
        have g9' : (zs, ys') = uld xs ys := g9
        rw [← g9']
        refine x_cons ?_
        refine x_ret ?_
        refine e_tuple ?_
        refine a_cons ?_
        refine e_loc (by repeat first | assumption | exact upd_same | refine upd_ne (by decide) ?_) ?_
        refine a_cons ?_
        refine e_loc (by repeat first | assumption | exact upd_same | refine upd_ne (by decide) ?_) ?_
        refine a_nil ?_
        refine fzL ?_
        refine fzL ?_
        refine fzL ?_
        refine p_newTupleF (by simp) fun tp => ?_
        refine fun s S => RetO.mk S ⟨rfl, ⟨tp, _, _, rfl, Fz.add_self, ?_, ?_⟩, ?_, ?_⟩
        · exact TList.of (by repeat first | exact Fz.add_self | refine Or.inl ?_) (g6.up (by repeat first | exact Fz.le_refl _ | refine Fz.le_trans ?_ Fz.le_add))
        · exact TList.of (by repeat first | exact Fz.add_self | refine Or.inl ?_) (g5.up (by repeat first | exact Fz.le_refl _ | refine Fz.le_trans ?_ Fz.le_add))
        · exact TList.of (vs := []) (by repeat first | exact Fz.add_self | refine Or.inl ?_) .nil
        · exact TList.of (by repeat first | exact Fz.add_self | refine Or.inl ?_) (g5.up (by repeat first | exact Fz.le_refl _ | refine Fz.le_trans ?_ Fz.le_add))
  · obtain ⟨rfl, h1, h2, h3⟩ := hr
    exact h v fz' hle h1 h2 h3
end
-- text ML7
section
variable {prog : Program} {w : World} {A : Around} {E : Value → Shared → Prop} {B : Bs} {L : Addr} {mg mb : Str → Option Value} {m : Str → Option Value} {mu : Led} {fz : Fz} {t u : Tok}
theorem e_and {env : Env} {e₁ e₂ : Expr} {rest : List Expr} {pos : Pos} {Q : Value → Shared → Prop}
    (h : ∀ s, Fs B L m mu fz s → wpAny (model prog w) A (eval e₁ env) (fun v s₁ => wpAny (model prog w) A (truthy v) (fun c s₂ => if c then wpAny (model prog w) A (eval (.BoolOp .And (e₂ :: rest) pos) env) Q E s₂ else Q v s₂) E s₁) E s) :
    ∀ s, Fs B L m mu fz s → wpAny (model prog w) A (eval (.BoolOp .And (e₁ :: e₂ :: rest) pos) env) Q E s := fun s S => BoolOp_and (h s S)
theorem e_and1 {env : Env} {op : BoolOp} {e : Expr} {pos : Pos} {Q : Value → Shared → Prop} (h : ∀ s, Fs B L m mu fz s → wpAny (model prog w) A (eval e env) Q E s) :
    ∀ s, Fs B L m mu fz s → wpAny (model prog w) A (eval (.BoolOp op [e] pos) env) Q E s := fun s S => BoolOp_one (h s S)
noncomputable def toldB (x y : List UInt8) (ws : List (List UInt8)) : Bool := decide (decide (uld (pairsOf x) (pairsOf y) = ([], []) ∧ y.getD 0 0 = x.getD 0 0) = decide (y ∈ ws))
theorem told_eqT {P : Prop} {a b : UInt8} [Decidable (P ∧ a = b)] (h : P) : ((a.toNat : Int) == (b.toNat : Int)) = decide (P ∧ a = b) := by
  rw [Bool.eq_iff_iff, beq_iff_eq, decide_eq_true_eq]
  exact ⟨fun q => ⟨h, UInt8.toNat_inj.mp (Int.ofNat.inj q)⟩, fun q => by rw [q.2]⟩
theorem pairsOf_len {l : List UInt8} (h : l.length = 8) : (pairsOf l).length = 7 := by
  unfold pairsOf
  rw [List.length_map, List.length_zip, List.length_drop]
  omega
theorem told_call {x y : List UInt8} {ws : List (List UInt8)} {v : Value} {Q : Value → Shared → Prop} (T : Tp mg mb fz) {k0 : Nat} (hA : Rm A (k0 + 5)) (hfr : FrOk A (L :: B.fs)) (h8x : x.length = 8) (h8y : y.length = 8) (hw : (TList TBy).R fz v ws)
    (h : ∀ fz', fz.le fz' → ∀ s, Fs B L m mu fz' s → Q (.bool (toldB x y ws)) s) :
    ∀ s, Fs B L m mu fz s → wpAny (model prog w) A (call (.ref 106) [.bytes x.toArray t, .bytes y.toArray u, v]) Q E s := by
  refine call_fn (binds := [(Str.ofString "word", .bytes x.toArray t), (Str.ofString "further", .bytes y.toArray u), (Str.ofString "words", v)]) (fun v' fz' => v' = .bool (toldB x y ws)) T T.f106 hA.rl (fun pm doc => rfl) (by rfl)
    (fun B' L' e hfs => ?_) (fun v fz' hle hr s' S' => ?_)
  · subst e
    obtain ⟨wa, wn, wvs, rfl, hwa, hwal⟩ := hw
    have hw : (TList TBy).R B'.f0 (.ref wa) ws := TList.of hwa hwal
    have hfr' : FrOk (A.deeper (envOf (sName (topS 20)) (sScope (topS 20)) L' 106 (.ref 105))) (L' :: B'.fs) := by rw [hfs]; exact hfr.deeper rfl rfl
    have hrm := hA.dn (env := envOf (sName (topS 20)) (sScope (topS 20)) L' 106 (.ref 105))
    unfold toldB
    generalize hxs : pairsOf x = xs
    generalize hys : pairsOf y = ys
    have lx : xs.length = 7 := by rw [← hxs]; exact pairsOf_len h8x
    have ly : ys.length = 7 := by rw [← hys]; exact pairsOf_len h8y
    unfold mOf
    simp only [List.foldl_cons, List.foldl_nil]
    refine x_cons ?_
    refine x_assign ?_
    refine e_call ?_
    refine e_glob (by assumption) (by rfl) ?_
    refine c_fn T.f99 ?_
    refine a_cons ?_
    refine e_loc (by repeat first | assumption | exact upd_same | refine upd_ne (by decide) ?_) ?_
    refine a_nil ?_
    refine l_fl ?_
    refine pairs_call (k0 := k0 + 2) T hrm (by omega) fun c1 vs1 n1 fz1 hle1 hal1 => ?_
    rw [hxs] at hal1
    have T1 := T.mono hle1
    refine store ?_
    refine x_cons ?_
    refine x_assign ?_
    refine e_call ?_
    refine e_glob (by assumption) (by rfl) ?_
    refine c_fn T.f99 ?_
    refine a_cons ?_
    refine e_loc (by repeat first | assumption | exact upd_same | refine upd_ne (by decide) ?_) ?_
    refine a_nil ?_
    refine l_fl ?_
    refine pairs_call (k0 := k0 + 2) T1 hrm (by omega) fun c2 vs2 n2 fz2 hle2 hal2 => ?_
    rw [hys] at hal2
    have T2 := T1.mono hle2
    have hal1' := hal1.up hle2
    have lv1 := hal1.length
    have lv2 := hal2.length
    have hw2 := (TList TBy).mono (Fz.le_trans hle1 hle2) hw
    clear hal1 hle1 hle2 T1
    refine store ?_
    refine x_cons ?_
    refine x_assign ?_
    refine e_list ?_
    refine a_nil ?_
    refine p_newList (by simp) fun mm => ?_
    refine store ?_
    refine x_cons ?_
    refine x_for0 ?_
    refine e_call ?_
    refine e_bi (by assumption) (by rfl) ?_
    refine c_type ?_
    refine a_cons ?_
    refine e_bin ?_
    refine e_call ?_
    refine e_bi (by assumption) (by rfl) ?_
    refine c_builtin ?_
    refine a_cons ?_
    refine e_loc (by repeat first | assumption | exact upd_same | refine upd_ne (by decide) ?_) ?_
    refine a_nil ?_
    refine k_len (.inr (.tail _ (.tail _ (.head _)))) rfl n1 rfl (by show vs1.toArray.size ≤ 16777216; simp; omega) fun t1 => ?_
    refine e_int ?_; intro _
    refine i_sub ?_; intro _
    refine a_cons ?_
    refine e_un ?_
    refine e_int ?_; intro _
    refine i_neg fun _ => ?_
    refine a_cons ?_
    refine e_un ?_
    refine e_int ?_; intro _
    refine i_neg fun _ => ?_
    refine a_nil ?_
    refine k_range3 (by decide) (PyProof.noPylong_small (by simp <;> omega)) fun r1 t2 t3 t4 => ?_
    refine for_range (n := 7) (J := fun i m' mu' fz' => ∃ ms j, m' (Str.ofString "word") = some (.bytes x.toArray t) ∧ m' (Str.ofString "further") = some (.bytes y.toArray u) ∧ m' (Str.ofString "words") = some (.ref wa) ∧ m' (Str.ofString "first") = some (.ref c1) ∧ m' (Str.ofString "second") = some (.ref c2) ∧ m' (Str.ofString "missing") = some (.ref mm) ∧
      mu' = [(mm, listOf ms.toArray j), (c2, listOf vs2.toArray n2), (c1, listOf vs1.toArray n1)] ∧ Al (TPr.R fz') ms (uldF ys (xs.reverse.take i)).1) Fz.add_self (by rw [rangeSize_down]; simp [lv1, lx]) (by simp [lv1, lx]; decide) hA.hh ?_ ?_ ?_
    · exact ⟨[], 0, by repeat first | assumption | exact upd_same | refine upd_ne (by decide) ?_, by repeat first | assumption | exact upd_same | refine upd_ne (by decide) ?_, by repeat first | assumption | exact upd_same | refine upd_ne (by decide) ?_, by repeat first | assumption | exact upd_same | refine upd_ne (by decide) ?_, by repeat first | assumption | exact upd_same | refine upd_ne (by decide) ?_, by repeat first | assumption | exact upd_same | refine upd_ne (by decide) ?_, rfl, .nil⟩
    · rintro i t5 m₁ mu₁ fz₁ ex hi hle3 ⟨ms, j, g1, g2, g3, g4, g5, g6, rfl, g7⟩
      have T3 := T2.mono (Fz.le_trans Fz.le_add hle3)
      have hv1 := hal1'.up (Fz.le_trans Fz.le_add hle3)
      have hv2 := hal2.up (Fz.le_trans Fz.le_add hle3)
      obtain ⟨pl, hpl⟩ : ∃ pl, pl = 6 - i := ⟨_, rfl⟩
      have hpl6 : pl < 7 := by omega
      have hxa : pl < xs.length := by omega
      have hst := miss_stepP (a := xs) (b := ys) (i := i) (p := pl) (by omega) hxa (by omega)
      have hml := uldF_len ys (xs.reverse.take i)
      rw [List.length_take] at hml
      have hms := g7.length
      generalize (uldF ys (xs.reverse.take i)).1 = M at g7 hst hml hms
      have e0 : (((vs1.toArray.size : Nat) : Int) - 1) + (i : Int) * (-1) = ((pl : Nat) : Int) := by simp [lv1, lx] <;> omega
      rw [e0]
      have hva : vs1[((pl : Nat) : Int).toNat]? = some (vs1[pl]'(by omega)) := List.getElem?_eq_getElem _
      have hra := hv1.get (by omega) hxa
      generalize hva' : vs1[pl]'(by omega) = va at hra
      rw [hva'] at hva
      generalize xs[pl]'hxa = xa at hra hst
      refine x_cons ?_
      refine x_if ?_
      refine t_cmp ?_
      refine e_meth1 ?_
      refine e_sub ?_
      refine e_loc (by repeat first | assumption | exact upd_same | refine upd_ne (by decide) ?_) ?_
      refine e_slice ?_
      refine ep_some ?_
      refine e_loc (by repeat first | assumption | exact upd_same | refine upd_ne (by decide) ?_) ?_
      refine ep_none ?_
      refine ep_none ?_
      refine p_slObj ?_; intro _
      refine p_cutFrom (k := (pl : Int)) (.inr (.tail _ (.tail _ (.head _)))) Fz.add_self (by omega) (by omega) fun q1 => ?_
      refine m_list1 F.slot_list_count F.type_list_count (.inr (.head _)) ?_
      refine e_sub ?_
      refine e_loc (by repeat first | assumption | exact upd_same | refine upd_ne (by decide) ?_) ?_
      refine e_loc (by repeat first | assumption | exact upd_same | refine upd_ne (by decide) ?_) ?_
      refine p_item (k := (pl : Int)) (.inr (.tail _ (.tail _ (.tail _ (.head _))))) rfl rfl (by omega) hva (by omega) ?_
      refine p_count TPr hrm (by decide) (.inr (.head _)) ((hv1.up Fz.le_add).drop pl) (TPr.mono Fz.le_add hra) fun t6 => ?_
      skip
      refine dropL ?_
      refine e_meth1 ?_
      refine e_loc (by repeat first | assumption | exact upd_same | refine upd_ne (by decide) ?_) ?_
      refine m_list1 F.slot_list_count F.type_list_count (.inr (.tail _ (.head _))) ?_
      refine e_sub ?_
      refine e_loc (by repeat first | assumption | exact upd_same | refine upd_ne (by decide) ?_) ?_
      refine e_loc (by repeat first | assumption | exact upd_same | refine upd_ne (by decide) ?_) ?_
      refine p_item (k := (pl : Int)) (.inr (.tail _ (.tail _ (.head _)))) rfl rfl (by omega) hva (by omega) ?_
      refine p_count TPr hrm (by decide) (.inr (.tail _ (.head _))) (hv2.up Fz.le_add) (TPr.mono Fz.le_add hra) fun t7 => ?_
      refine c_gt ?_
      refine tr_bool ?_
      by_cases hc : cn ys xa < cn (xs.drop pl) xa
      · rw [if_pos hc] at hst
        refine brT (decide_eq_true (Int.ofNat_lt.mpr hc)) ?_
        refine x_cons ?_
        refine x_expr ?_
        refine e_appendL (pre := []) (l := mm) (by repeat first | assumption | exact upd_same | refine upd_ne (by decide) ?_) ?_
        refine e_sub ?_
        refine e_loc (by repeat first | assumption | exact upd_same | refine upd_ne (by decide) ?_) ?_
        refine e_loc (by repeat first | assumption | exact upd_same | refine upd_ne (by decide) ?_) ?_
        refine p_item (k := (pl : Int)) (.inr (.tail _ (.tail _ (.head _)))) rfl rfl (by omega) hva (by omega) ?_
        refine p_app (pre := []) (by omega) ?_
        refine x_nil ?_
        refine x_nil ?_
        refine fun s S => TurnPost.next (mu := [(mm, _), (c2, _), (c1, _)]) S (by repeat first | exact Fz.le_refl _ | refine Fz.le_trans ?_ Fz.le_add) ⟨_, _, by repeat first | assumption | exact upd_same | refine upd_ne (by decide) ?_, by repeat first | assumption | exact upd_same | refine upd_ne (by decide) ?_, by repeat first | assumption | exact upd_same | refine upd_ne (by decide) ?_, by repeat first | assumption | exact upd_same | refine upd_ne (by decide) ?_, by repeat first | assumption | exact upd_same | refine upd_ne (by decide) ?_, by repeat first | assumption | exact upd_same | refine upd_ne (by decide) ?_, rfl, ?_⟩
        rw [hst]
        exact (g7.up Fz.le_add).snoc (TPr.mono Fz.le_add hra)
      · rw [if_neg hc, List.append_nil] at hst
        refine brF (decide_eq_false fun q => hc (Int.ofNat_lt.mp q)) ?_
        refine x_nil ?_
        refine x_nil ?_
        refine fun s S => TurnPost.next (mu := [(mm, _), (c2, _), (c1, _)]) S (by repeat first | exact Fz.le_refl _ | refine Fz.le_trans ?_ Fz.le_add) ⟨_, _, by repeat first | assumption | exact upd_same | refine upd_ne (by decide) ?_, by repeat first | assumption | exact upd_same | refine upd_ne (by decide) ?_, by repeat first | assumption | exact upd_same | refine upd_ne (by decide) ?_, by repeat first | assumption | exact upd_same | refine upd_ne (by decide) ?_, by repeat first | assumption | exact upd_same | refine upd_ne (by decide) ?_, by repeat first | assumption | exact upd_same | refine upd_ne (by decide) ?_, rfl, ?_⟩
        rw [hst]
        exact g7.up Fz.le_add
    · rintro m₁ mu₁ fz₁ hle3 ⟨ms, j, g1, g2, g3, g4, g5, g6, rfl, g7⟩
      have T3 := T2.mono (Fz.le_trans Fz.le_add hle3)
      have hv1 := hal1'.up (Fz.le_trans Fz.le_add hle3)
      have hv2 := hal2.up (Fz.le_trans Fz.le_add hle3)
      have hw3 := (TList TBy).mono (Fz.le_trans Fz.le_add hle3) hw2
      rw [List.take_of_length_le (by rw [List.length_reverse]; omega)] at g7
      have hM : (uldF ys xs.reverse).1 = (uld xs ys).1 := rfl
      rw [hM] at g7
      refine x_cons ?_
      refine x_assign ?_
      refine e_list ?_
      refine a_nil ?_
      refine p_newList (by simp) fun un => ?_
      refine store ?_
      refine x_cons ?_
      refine x_for0 ?_
      refine e_call ?_
      refine e_bi (by assumption) (by rfl) ?_
      refine c_type ?_
      refine a_cons ?_
      refine e_call ?_
      refine e_bi (by assumption) (by rfl) ?_
      refine c_builtin ?_
      refine a_cons ?_
      refine e_loc (by repeat first | assumption | exact upd_same | refine upd_ne (by decide) ?_) ?_
      refine a_nil ?_
      refine k_len (.inr (.tail _ (.tail _ (.head _)))) rfl n2 rfl (by show vs2.toArray.size ≤ 16777216; simp; omega) fun t8 => ?_
      refine a_nil ?_
      refine k_range1 fun r2 t9 t10 t11 => ?_
      refine for_range (n := 7) (J := fun i m' mu' fz' => ∃ us k, m' (Str.ofString "word") = some (.bytes x.toArray t) ∧ m' (Str.ofString "further") = some (.bytes y.toArray u) ∧ m' (Str.ofString "words") = some (.ref wa) ∧ m' (Str.ofString "first") = some (.ref c1) ∧ m' (Str.ofString "second") = some (.ref c2) ∧ m' (Str.ofString "missing") = some (.ref mm) ∧ m' (Str.ofString "unexpected") = some (.ref un) ∧
        mu' = [(un, listOf us.toArray k), (mm, listOf ms.toArray j), (c2, listOf vs2.toArray n2), (c1, listOf vs1.toArray n1)] ∧ Al (TPr.R fz') us (keepF (cn xs) (ys.take i))) Fz.add_self (by rw [rangeSize_one, if_pos (by simp; omega)]; simp; omega) (small_up (by omega) (by omega) (by simp <;> omega) (by simp <;> omega)) hA.hh ?_ ?_ ?_
      · exact ⟨[], 0, by repeat first | assumption | exact upd_same | refine upd_ne (by decide) ?_, by repeat first | assumption | exact upd_same | refine upd_ne (by decide) ?_, by repeat first | assumption | exact upd_same | refine upd_ne (by decide) ?_, by repeat first | assumption | exact upd_same | refine upd_ne (by decide) ?_, by repeat first | assumption | exact upd_same | refine upd_ne (by decide) ?_, by repeat first | assumption | exact upd_same | refine upd_ne (by decide) ?_, by repeat first | assumption | exact upd_same | refine upd_ne (by decide) ?_, rfl, .nil⟩
      · rintro i t12 m₂ mu₂ fz₂ ex hi hle4 ⟨us, k, f1, f2, f3, f4, f5, f6, f7, rfl, f8⟩
        have T4 := T3.mono (Fz.le_trans Fz.le_add hle4)
        have hv1' := hv1.up (Fz.le_trans Fz.le_add hle4)
        have hv2' := hv2.up (Fz.le_trans Fz.le_add hle4)
        have hya : i < ys.length := by omega
        have hst := keep_step (a := xs) (b := ys) hya
        have hml := keepF_len (ys.take i) (cn xs)
        rw [List.length_take] at hml
        have hms := f8.length
        generalize keepF (cn xs) (ys.take i) = M at f8 hst hml hms
        have e0 : (0 : Int) + (i : Int) * 1 = ((i : Nat) : Int) := by omega
        rw [e0]
        have hva : vs2[((i : Nat) : Int).toNat]? = some (vs2[i]'(by omega)) := List.getElem?_eq_getElem _
        have hra := hv2'.get (by omega) hya
        generalize hva' : vs2[i]'(by omega) = va at hra
        rw [hva'] at hva
        generalize ys[i]'hya = xa at hra hst
        refine x_cons ?_
        refine x_if ?_
        refine t_cmp ?_
        refine e_meth1 ?_
        refine e_sub ?_
        refine e_loc (by repeat first | assumption | exact upd_same | refine upd_ne (by decide) ?_) ?_
        refine e_slice ?_
        refine ep_none ?_
        refine ep_some ?_
        refine e_bin ?_
        refine e_loc (by repeat first | assumption | exact upd_same | refine upd_ne (by decide) ?_) ?_
        refine e_int ?_; intro _
        refine i_add ?_; intro _
        refine ep_none ?_
        refine p_slObj ?_; intro _
        refine p_cutTo (k := (i : Int) + 1) (.inr (.tail _ (.tail _ (.head _)))) Fz.add_self (by omega) (by omega) fun q1 => ?_
        refine m_list1 F.slot_list_count F.type_list_count (.inr (.head _)) ?_
        refine e_sub ?_
        refine e_loc (by repeat first | assumption | exact upd_same | refine upd_ne (by decide) ?_) ?_
        refine e_loc (by repeat first | assumption | exact upd_same | refine upd_ne (by decide) ?_) ?_
        refine p_item (k := (i : Int)) (.inr (.tail _ (.tail _ (.tail _ (.head _))))) rfl rfl (by omega) hva (by omega) ?_
        refine p_count TPr hrm (by decide) (.inr (.head _)) ((hv2'.up Fz.le_add).take (i + 1)) (TPr.mono Fz.le_add hra) fun t6 => ?_
        skip
        refine dropL ?_
        refine e_meth1 ?_
        refine e_loc (by repeat first | assumption | exact upd_same | refine upd_ne (by decide) ?_) ?_
        refine m_list1 F.slot_list_count F.type_list_count (.inr (.tail _ (.tail _ (.tail _ (.head _))))) ?_
        refine e_sub ?_
        refine e_loc (by repeat first | assumption | exact upd_same | refine upd_ne (by decide) ?_) ?_
        refine e_loc (by repeat first | assumption | exact upd_same | refine upd_ne (by decide) ?_) ?_
        refine p_item (k := (i : Int)) (.inr (.tail _ (.tail _ (.head _)))) rfl rfl (by omega) hva (by omega) ?_
        refine p_count TPr hrm (by decide) (.inr (.tail _ (.tail _ (.tail _ (.head _))))) (hv1'.up Fz.le_add) (TPr.mono Fz.le_add hra) fun t7 => ?_
        refine c_gt ?_
        refine tr_bool ?_
        by_cases hc : cn xs xa < cn (ys.take (i + 1)) xa
        · rw [if_pos hc] at hst
          refine brT (decide_eq_true (Int.ofNat_lt.mpr hc)) ?_
          refine x_cons ?_
          refine x_expr ?_
          refine e_appendL (pre := []) (l := un) (by repeat first | assumption | exact upd_same | refine upd_ne (by decide) ?_) ?_
          refine e_sub ?_
          refine e_loc (by repeat first | assumption | exact upd_same | refine upd_ne (by decide) ?_) ?_
          refine e_loc (by repeat first | assumption | exact upd_same | refine upd_ne (by decide) ?_) ?_
          refine p_item (k := (i : Int)) (.inr (.tail _ (.tail _ (.head _)))) rfl rfl (by omega) hva (by omega) ?_
          refine p_app (pre := []) (by omega) ?_
          refine x_nil ?_
          refine x_nil ?_
          refine fun s S => TurnPost.next (mu := [(un, _), (mm, _), (c2, _), (c1, _)]) S (by repeat first | exact Fz.le_refl _ | refine Fz.le_trans ?_ Fz.le_add) ⟨_, _, by repeat first | assumption | exact upd_same | refine upd_ne (by decide) ?_, by repeat first | assumption | exact upd_same | refine upd_ne (by decide) ?_, by repeat first | assumption | exact upd_same | refine upd_ne (by decide) ?_, by repeat first | assumption | exact upd_same | refine upd_ne (by decide) ?_, by repeat first | assumption | exact upd_same | refine upd_ne (by decide) ?_, by repeat first | assumption | exact upd_same | refine upd_ne (by decide) ?_, by repeat first | assumption | exact upd_same | refine upd_ne (by decide) ?_, rfl, ?_⟩
          rw [hst]
          exact (f8.up Fz.le_add).snoc (TPr.mono Fz.le_add hra)
        · rw [if_neg hc, List.append_nil] at hst
          refine brF (decide_eq_false fun q => hc (Int.ofNat_lt.mp q)) ?_
          refine x_nil ?_
          refine x_nil ?_
          refine fun s S => TurnPost.next (mu := [(un, _), (mm, _), (c2, _), (c1, _)]) S (by repeat first | exact Fz.le_refl _ | refine Fz.le_trans ?_ Fz.le_add) ⟨_, _, by repeat first | assumption | exact upd_same | refine upd_ne (by decide) ?_, by repeat first | assumption | exact upd_same | refine upd_ne (by decide) ?_, by repeat first | assumption | exact upd_same | refine upd_ne (by decide) ?_, by repeat first | assumption | exact upd_same | refine upd_ne (by decide) ?_, by repeat first | assumption | exact upd_same | refine upd_ne (by decide) ?_, by repeat first | assumption | exact upd_same | refine upd_ne (by decide) ?_, by repeat first | assumption | exact upd_same | refine upd_ne (by decide) ?_, rfl, ?_⟩
          rw [hst]
          exact f8.up Fz.le_add
      · rintro m₂ mu₂ fz₂ hle4 ⟨us, k, f1, f2, f3, f4, f5, f6, f7, rfl, f8⟩
        have T4 := T3.mono (Fz.le_trans Fz.le_add hle4)
        have hv1' := hv1.up (Fz.le_trans Fz.le_add hle4)
        have hv2' := hv2.up (Fz.le_trans Fz.le_add hle4)
        have g7' := g7.up (Fz.le_trans Fz.le_add hle4)
        have hw4 := (TList TBy).mono (Fz.le_trans Fz.le_add hle4) hw3
        rw [List.take_of_length_le (by omega), ← uld_rest] at f8
        have T5 : Tp mg mb ((fz₂.add un (listOf us.toArray k)).add mm (listOf ms.toArray j)) := T4.mono (by repeat first | exact Fz.le_refl _ | refine Fz.le_trans ?_ Fz.le_add)
        refine x_cons ?_
        refine x_assign ?_
        refine e_call ?_
        refine e_glob (by assumption) (by rfl) ?_
        refine fzL ?_
        refine fzL ?_
        refine c_fn T.f28 ?_
        refine a_cons ?_
        refine e_loc (by repeat first | assumption | exact upd_same | refine upd_ne (by decide) ?_) ?_
        refine a_cons ?_
        refine e_loc (by repeat first | assumption | exact upd_same | refine upd_ne (by decide) ?_) ?_
        refine a_nil ?_
        refine l_fl ?_
        refine permL (List.Perm.swap _ _ _) ?_
        refine uld_call (k0 := k0 + 2) (mu := []) T5 hrm hfr' (hv1'.up (by repeat first | exact Fz.le_refl _ | refine Fz.le_trans ?_ Fz.le_add)) (hv2'.up (by repeat first | exact Fz.le_refl _ | refine Fz.le_trans ?_ Fz.le_add)) (by omega) (by omega) fun fv fz5 hle5 hf1 hf2 hf3 => ?_
        refine store ?_
        refine x_cons ?_
        refine x_if ?_
        refine t_or ?_
        refine t_cmp ?_
        refine e_call ?_
        refine e_bi (by assumption) (by rfl) ?_
        refine c_type ?_
        refine a_cons ?_
        refine e_loc (by repeat first | assumption | exact upd_same | refine upd_ne (by decide) ?_) ?_
        refine a_nil ?_
        have hle6 : fz₂.le fz5 := Fz.le_trans (by repeat first | exact Fz.le_refl _ | refine Fz.le_trans ?_ Fz.le_add) hle5
        have g8 := g7'.up hle6
        have f9 := f8.up hle6
        have hw5 := (TList TBy).mono hle6 hw4
        have hM : (TList TPr).R fz5 (.ref mm) (uld xs ys).1 := TList.of (hle5 _ _ (by repeat first | exact Fz.add_self | refine Or.inl ?_)) g8
        have hN : (TList TPr).R fz5 (.ref un) (uld xs ys).2 := TList.of (hle5 _ _ (by repeat first | exact Fz.add_self | refine Or.inl ?_)) f9
        have T6 := T4.mono hle6
        obtain ⟨tp, v1, v2, rfl, htp, hp1, hp2⟩ := id hf1
        refine p_typeTup (.inl htp) rfl ?_
        refine e_bi (by assumption) (by rfl) ?_
        refine p_isNotT ?_
        refine tr_bool ?_
        refine brF (by decide) ?_
        refine t_or ?_
        refine t_cmp ?_
        refine e_loc (by repeat first | assumption | exact upd_same | refine upd_ne (by decide) ?_) ?_
        refine e_tuple ?_
        refine a_cons ?_
        refine e_loc (by repeat first | assumption | exact upd_same | refine upd_ne (by decide) ?_) ?_
        refine a_cons ?_
        refine e_loc (by repeat first | assumption | exact upd_same | refine upd_ne (by decide) ?_) ?_
        refine a_nil ?_
        refine p_newTupleF (by simp) fun tq => ?_
        skip
        refine p_neT (TList TPr) (TList TPr) hrm (by decide) (TPs.mono Fz.le_add hf1) (y := uld xs ys) ⟨tq, _, _, rfl, Fz.add_self, (TList TPr).mono Fz.le_add hM, (TList TPr).mono Fz.le_add hN⟩ ?_
        refine tr_bool ?_
        refine brF (by rw [decide_eq_true rfl]; rfl) ?_
        refine t_or ?_
        refine t_cmp ?_
        refine e_loc (by repeat first | assumption | exact upd_same | refine upd_ne (by decide) ?_) ?_
        refine e_list ?_
        refine a_nil ?_
        refine p_newListF (by simp) fun tr => ?_
        refine p_neL TPr hrm (by decide) ((TList TPr).mono (by repeat first | exact Fz.le_refl _ | refine Fz.le_trans ?_ Fz.le_add) hf2) (y := []) (TList.of (vs := []) Fz.add_self .nil) ?_
        refine tr_bool ?_
        refine brF (by decide) ?_
        refine t_or ?_
        refine t_cmp ?_
        refine e_loc (by repeat first | assumption | exact upd_same | refine upd_ne (by decide) ?_) ?_
        refine e_loc (by repeat first | assumption | exact upd_same | refine upd_ne (by decide) ?_) ?_
        refine p_neL TPr hrm (by decide) ((TList TPr).mono (by repeat first | exact Fz.le_refl _ | refine Fz.le_trans ?_ Fz.le_add) hf3) ((TList TPr).mono (by repeat first | exact Fz.le_refl _ | refine Fz.le_trans ?_ Fz.le_add) hN) ?_
        refine tr_bool ?_
        refine brF (by rw [decide_eq_true rfl]; rfl) ?_
        refine t_orNil ?_
        refine brF (by decide) ?_
        refine x_nil ?_
        refine x_cons ?_
        refine x_ret ?_
        refine e_cmp ?_
        refine e_and ?_
        refine e_cmp ?_
        refine e_loc (by repeat first | assumption | exact upd_same | refine upd_ne (by decide) ?_) ?_
        refine e_tuple ?_
        refine a_cons ?_
        refine e_list ?_
        refine a_nil ?_
        refine p_newListF (by simp) fun l1 => ?_
        refine a_cons ?_
        refine e_list ?_
        refine a_nil ?_
        refine p_newListF (by simp) fun l2 => ?_
        refine a_nil ?_
        refine p_newTupleF (by simp) fun l3 => ?_
        refine p_eq TPs hrm (by decide) (TPs.mono (by repeat first | exact Fz.le_refl _ | refine Fz.le_trans ?_ Fz.le_add) hf1) (y := ([], [])) ⟨l3, _, _, rfl, Fz.add_self, TList.of (vs := []) (by repeat first | exact Fz.add_self | refine Or.inl ?_) .nil, TList.of (vs := []) (by repeat first | exact Fz.add_self | refine Or.inl ?_) .nil⟩ ?_
        refine tr_bool ?_
        obtain ⟨wa', wn', wvs', ew, hwa5, hwal5⟩ := hw5
        cases ew
        refine brD (fun h1 => ?_) fun h1 => ?_
        · refine e_and1 ?_
          refine e_cmp ?_
          refine e_sub ?_
          refine e_loc (by repeat first | assumption | exact upd_same | refine upd_ne (by decide) ?_) ?_
          refine e_int ?_; intro _
          refine p_byteAt (by omega) (by decide) (by omega) fun b1 => ?_
          refine e_sub ?_
          refine e_loc (by repeat first | assumption | exact upd_same | refine upd_ne (by decide) ?_) ?_
          refine e_int ?_; intro _
          refine p_byteAt (by omega) (by decide) (by omega) fun b2 => ?_
          refine c_eq ?_
          refine e_cmp ?_
          refine e_loc (by repeat first | assumption | exact upd_same | refine upd_ne (by decide) ?_) ?_
          refine e_loc (by repeat first | assumption | exact upd_same | refine upd_ne (by decide) ?_) ?_
          refine p_in TBy hrm (by decide) (.inl (by repeat first | exact hwa5 | refine Or.inl ?_)) (hwal5.up (by repeat first | exact Fz.le_refl _ | refine Fz.le_trans ?_ Fz.le_add)) (x := y) ⟨_, rfl⟩ ?_
          refine p_eq TBool hrm (by decide) rfl rfl ?_
          refine fun s S => Ret.mk S ?_
          refine congrArg Value.bool (decide_eq_decide.mpr ?_)
          rw [show Int.toNat 0 = 0 from rfl, told_eqT (P := uld xs ys = ([], [])) h1]
          exact iff_of_eq (congr (congrArg Eq (decide_eq_decide.mpr Iff.rfl)) (decide_eq_decide.mpr Iff.rfl))
        · refine e_cmp ?_
          refine e_loc (by repeat first | assumption | exact upd_same | refine upd_ne (by decide) ?_) ?_
          refine e_loc (by repeat first | assumption | exact upd_same | refine upd_ne (by decide) ?_) ?_
          refine p_in TBy hrm (by decide) (.inl (by repeat first | exact hwa5 | refine Or.inl ?_)) (hwal5.up (by repeat first | exact Fz.le_refl _ | refine Fz.le_trans ?_ Fz.le_add)) (x := y) ⟨_, rfl⟩ ?_
          refine p_eq TBool hrm (by decide) rfl rfl ?_
          refine fun s S => Ret.mk S ?_
          rw [decide_eq_false h1, decide_eq_false (p := uld xs ys = ([], []) ∧ y.getD 0 0 = x.getD 0 0) fun q => h1 q.1]
          exact congrArg Value.bool (decide_eq_decide.mpr (iff_of_eq (congrArg (Eq false) (decide_eq_decide.mpr Iff.rfl))))
  · subst hr
    exact h fz' hle s' S'
end
-- text ML8
section
variable {prog : Program} {w : World} {A : Around} {E : Value → Shared → Prop} {B : Bs} {L : Addr} {mg mb : Str → Option Value} {m : Str → Option Value} {mu : Led} {fz : Fz} {t u : Tok}
theorem D3.set {r : List Int} {i : Nat} {d : Int} (h : D3 r) (h1 : 0 ≤ d) (h2 : d < 3) : D3 (r.set i d) := by
  intro x hx
  rcases List.mem_or_eq_of_mem_set hx with hx | rfl
  · exact h x hx
  · exact ⟨h1, h2⟩
theorem D3.getD {r : List Int} (h : D3 r) (j : Nat) : 0 ≤ r.getD j 0 ∧ r.getD j 0 < 3 := by
  rw [List.getD_eq_getElem?_getD]
  by_cases hj : j < r.length
  · rw [List.getElem?_eq_getElem hj]
    exact h _ (List.getElem_mem _)
  · rw [List.getElem?_eq_none (by omega)]
    exact ⟨Int.le_refl _, by decide⟩
theorem fSwap_ok {ds : List Int} {far : Int} (h8 : ds.length = 8) (h3 : D3 ds) : (fSwap ds far).length = 8 ∧ D3 (fSwap ds far) :=
  ⟨by unfold fSwap; rw [List.length_set, List.length_set, h8], (h3.set (h3.getD _).1 (h3.getD _).2).set (h3.getD _).1 (h3.getD _).2⟩
theorem fAnew_ok {ds : List Int} {far : Int} (h8 : ds.length = 8) (h3 : D3 ds) : (fAnew ds far).length = 8 ∧ D3 (fAnew ds far) :=
  ⟨by unfold fAnew; rw [List.length_set, h8], h3.set (by omega) (by omega)⟩
theorem D3.reverse {ds : List Int} (h3 : D3 ds) : D3 ds.reverse := fun x hx => h3 x (List.mem_reverse.mp hx)
theorem signs_len (ds : List Int) : (signs ds).length = ds.length := by unfold signs; rw [List.length_map]
theorem signs_rev (ds : List Int) : (signs ds).reverse = signs ds.reverse := by unfold signs; rw [List.map_reverse]
structure Plain (ds : List Int) : Prop where
  rl : (rowsOf ds).length < 64
  r8 : ∀ r ∈ rowsOf ds, r.length = 8 ∧ D3 r
  nd : (rowsOf ds).Nodup
  me : ds ∈ rowsOf ds
  cl : ∀ r ∈ rowsOf ds, ∀ i j, canT (signs r) i j → turnB (signs r) i j ∈ (rowsOf ds).map signs
  co : ∀ ws : List (List UInt8), signs ds ∈ ws → (∀ x ∈ ws, ∀ i j, canT x i j → turnB x i j ∈ ws) → ∀ r ∈ rowsOf ds, signs r ∈ ws
  to : ∀ r : List Int, r.length = 8 → D3 r → (((pairsOf (signs ds)).Perm (pairsOf (signs r)) ∧ (signs r).getD 0 0 = (signs ds).getD 0 0) ↔ signs r ∈ (rowsOf ds).map signs)
theorem Plain.uni {ds : List Int} (P : Plain ds) : Uni ((rowsOf ds).map signs) where
  len := fun x hx => by
    obtain ⟨r, hr, rfl⟩ := List.mem_map.mp hx
    rw [signs_len]; exact (P.r8 r hr).1
  cl := fun x hx i j hc => by
    obtain ⟨r, hr, rfl⟩ := List.mem_map.mp hx
    exact P.cl r hr i j hc
  small := by rw [List.length_map]; have := P.rl; omega
theorem sgn_inj {a b : Int} (ha : 0 ≤ a ∧ a < 3) (hb : 0 ≤ b ∧ b < 3) (h : sgn a = sgn b) : a = b := by
  obtain rfl | rfl | rfl : a = 0 ∨ a = 1 ∨ a = 2 := by omega
  all_goals obtain rfl | rfl | rfl : b = 0 ∨ b = 1 ∨ b = 2 := by omega
  all_goals first | rfl | exact absurd h (by decide)
theorem signs_inj : ∀ {a b : List Int}, D3 a → D3 b → signs a = signs b → a = b := by
  intro a
  induction a with
  | nil => intro b _ _ h; cases b with | nil => rfl | cons => cases h
  | cons x a ih =>
    intro b ha hb h
    cases b with
    | nil => cases h
    | cons y b =>
      have h1 : sgn x = sgn y := (List.cons.inj h).1
      have h2 : signs a = signs b := (List.cons.inj h).2
      rw [sgn_inj (ha x (.head _)) (hb y (.head _)) h1, ih (fun z hz => ha z (.tail _ hz)) (fun z hz => hb z (.tail _ hz)) h2]
theorem nodup_signs : ∀ {rs : List (List Int)}, (∀ r ∈ rs, D3 r) → rs.Nodup → (rs.map signs).Nodup := by
  intro rs
  induction rs with
  | nil => intro _ _; exact List.nodup_nil
  | cons r rs ih =>
    intro h hn
    rw [List.nodup_cons] at hn
    rw [List.map_cons, List.nodup_cons]
    refine ⟨fun hm => ?_, ih (fun q hq => h q (.tail _ hq)) hn.2⟩
    obtain ⟨q, hq, e⟩ := List.mem_map.mp hm
    exact hn.1 (signs_inj (h q (.tail _ hq)) (h r (.head _)) e ▸ hq)
theorem Plain.perm {ds : List Int} (P : Plain ds) {ws : List (List UInt8)} (h1 : RchW ((rowsOf ds).map signs) ws) (h2 : signs ds ∈ ws) (h3 : ∀ x ∈ ws, ∀ i j, canT x i j → turnB x i j ∈ ws) : ws.Perm ((rowsOf ds).map signs) := by
  refine (List.perm_ext_iff_of_nodup h1.nd (nodup_signs (fun r hr => (P.r8 r hr).2) P.nd)).mpr fun y => ⟨fun hy => h1.sub y hy, fun hy => ?_⟩
  obtain ⟨r, hr, rfl⟩ := List.mem_map.mp hy
  exact P.co ws h2 h3 r hr
theorem Plain.told {ds : List Int} (P : Plain ds) {ws : List (List UInt8)} (hp : ws.Perm ((rowsOf ds).map signs)) {r : List Int} (h8 : r.length = 8) (h3 : D3 r) : toldB (signs ds) (signs r) ws = true := by
  unfold toldB
  refine decide_eq_true (decide_eq_decide.mpr ?_)
  rw [uld_none, hp.mem_iff]
  exact P.to r h8 h3
theorem p_cutRev2 {value slice : Expr} {a sl : Addr} {vs : List Value} {n : Nat} {Q : Value → Shared → Prop} (ha : fz a (listOf vs.toArray n) ∨ (a, listOf vs.toArray n) ∈ mu) (hsl : fz sl (slObj .none .none (.int (-1) t))) (hz : vs.length ≤ 1000000)
    (h : ∀ b s, Fs B L m ((b, listOf vs.reverse.toArray 0) :: mu) fz s → Q (.ref b) s)
    (hs : subscripted slice false (.ref a) (.ref sl) = operate [.ref a, .ref sl] (getItem (.ref a) (.ref sl)) := by with_unfolding_all rfl) :
    ∀ s, Fs B L m mu fz s → wpAny (model prog w) A (subscriptTail value slice (.ref a) (.ref sl)) Q E s := by
  refine p_cut ha rfl rfl hsl .none .none (.int (-1) t) (by simp) (by simpa using hz) ?_ hs
  have e : slicePick vs.toArray none none (some (-1)) = vs.reverse.toArray := by rw [krv_pick]
  rw [e]; exact h
theorem p_sortedW {a : Addr} {vs : List Value} {ys : List (List UInt8)} {n : Nat} {Q : Value → Shared → Prop} (ha : fz a (listOf vs.toArray n) ∨ (a, listOf vs.toArray n) ∈ mu) (hv : Al (TBy.R fz) vs ys) (h64 : ys.length < 64)
    (h : ∀ c ws zs k, Al (TBy.R fz) ws zs → zs.Perm ys → SortedB zs → ∀ s, Fs B L m ((c, listOf ws.toArray k) :: mu) fz s → Q (.ref c) s) :
    ∀ s, Fs B L m mu fz s → wpAny (model prog w) A (call (.builtin "sorted") [.ref a]) Q E s := p_sorted ha hv h64 fun c ws zs k s h1 h2 h3 S => h c ws zs k h1 h2 h3 s S
theorem weakL {fz1 : Fz} {Q : Shared → Prop} (hle : fz.le fz1) (h0 : B.f0.le fz) (h : ∀ s, Fs B L m mu fz s → Q s) : ∀ s, Fs B L m mu fz1 s → Q s := fun s S => h s (S.less hle h0)
theorem walk_call {v : Value} {ds : List Int} {far : Int} {Q : Value → Shared → Prop} (P : Plain ds) (T : Tp mg mb fz) {k0 : Nat} (hA : Rm A (k0 + 8)) (hfr : FrOk A (L :: B.fs)) (hv : (TList TInt).R fz v ds) (h8 : ds.length = 8) (h3 : D3 ds)
    (h : ∀ fz', fz.le fz' → ∀ s, Fs B L m mu fz' s → Q (.bool true) s) :
    ∀ s, Fs B L m mu fz s → wpX (model prog w) A (call (.ref 123) [v, .int far u]) Q E s := by
  refine callX_fnC (binds := [(Str.ofString "digits", v), (Str.ofString "far", .int far u)]) (fun v' fz' => v' = .bool true) T T.f123 hA.rl (fun pm doc => rfl) (by rfl)
    (hnd := fun L' => by show ([Str.ofString "words", Str.ofString "word"] : List Str).Nodup; decide) (fun B' L' o e hfs ho => ?_) (fun v fz' hle hr s' S' => ?_)
  · subst e
    have hfr' : FrOk (A.deeper (envOfC (sName (topS 23)) (sScope (topS 23)) L' 123 (.ref 122))) (L' :: B'.fs) := by rw [hfs]; exact hfr.deeper rfl rfl
    have hrm := hA.dn (env := envOfC (sName (topS 23)) (sScope (topS 23)) L' 123 (.ref 122))
    obtain ⟨a, n, vs, rfl, ha, hal⟩ := hv
    have hv : (TList TInt).R B'.f0 (.ref a) ds := TList.of ha hal
    have hc : (cellsFrom (L' + 1) (sScope (topS 23)).names []).map (fun p => (p.2, o p.2)) = [(L' + 2, o (L' + 2)), (L' + 1, o (L' + 1))] := rfl
    have hd1 : (o (L' + 1)).data = .cell none := ho (Str.ofString "word", L' + 1) (.tail _ (.head _))
    have hd2 : (o (L' + 2)).data = .cell none := ho (Str.ofString "words", L' + 2) (.head _)
    rw [hc]
    generalize o (L' + 1) = o1 at hd1
    generalize o (L' + 2) = o2 at hd2
    unfold mOf
    simp only [List.foldl_cons, List.foldl_nil]
    refine y_cons ?_
    refine y_any ?_
    refine x_assign ?_
    refine e_call ?_
    refine e_glob (by assumption) (by rfl) ?_
    refine c_fn T.f94 ?_
    refine a_cons ?_
    refine e_loc (by repeat first | assumption | exact upd_same | refine upd_ne (by decide) ?_) ?_
    refine a_nil ?_
    refine l_fl ?_
    refine rows_call (k0 := k0 + 5) T (hrm.le (by omega)) hv h8 h3 fun rv fz1 hle1 hr1 => ?_
    have T1 := T.mono hle1
    refine store ?_
    refine y_cons ?_
    refine y_any ?_
    refine x_assign ?_
    refine e_call ?_
    refine e_glob (by assumption) (by rfl) ?_
    refine c_fn T.f113 ?_
    refine a_cons ?_
    refine e_loc (by repeat first | assumption | exact upd_same | refine upd_ne (by decide) ?_) ?_
    refine a_cons ?_
    refine e_loc (by repeat first | assumption | exact upd_same | refine upd_ne (by decide) ?_) ?_
    refine a_nil ?_
    refine l_fl ?_
    refine further_call (k0 := k0 + 5) T1 (hrm.le (by omega)) ((TList TInt).mono hle1 hv) h8 fun cv fz2 hle2 hr2 => ?_
    have T2 := T1.mono hle2
    refine store ?_
    refine y_cons ?_
    refine y_any ?_
    refine x_assign ?_
    refine e_call ?_
    refine e_glob (by assumption) (by rfl) ?_
    refine c_fn T.f77 ?_
    refine a_cons ?_
    refine e_loc (by repeat first | assumption | exact upd_same | refine upd_ne (by decide) ?_) ?_
    refine a_nil ?_
    refine l_fl ?_
    refine written_call (k0 := k0 + 2) T2 (hrm.le (by omega)) ((TList TInt).mono (Fz.le_trans hle1 hle2) hv) h8 h3 fun t1 => ?_
    refine store_cell (pre := [(L' + 2, o2)]) (c := L' + 1) rfl hd1 ?_
    refine permL (List.Perm.swap _ _ _) ?_
    refine fzL ?_
    refine y_cons ?_
    refine y_any ?_
    have hle3 : fz2.le (fz2.add (L' + 1) { o1 with data := .cell (some (.bytes (signs ds).toArray t1)) }) := Fz.le_add
    have hw3 : (fz2.add (L' + 1) { o1 with data := .cell (some (.bytes (signs ds).toArray t1)) }) (L' + 1) { o1 with data := .cell (some (.bytes (signs ds).toArray t1)) } := Fz.add_self
    have hv3 := (TList TInt).mono (Fz.le_trans hle1 (Fz.le_trans hle2 hle3)) hv
    have hr13 := (TList (TList TInt)).mono (Fz.le_trans hle2 hle3) hr1
    have hr23 := (TList (TList TInt)).mono hle3 hr2
    have T3 := T2.mono hle3
    have hle03 : B'.f0.le (fz2.add (L' + 1) { o1 with data := .cell (some (.bytes (signs ds).toArray t1)) }) := Fz.le_trans hle1 (Fz.le_trans hle2 hle3)
    clear hle1 hle2 hle3 hr1 hr2 T1 T2
    generalize fz2.add (L' + 1) { o1 with data := .cell (some (.bytes (signs ds).toArray t1)) } = fz3 at hw3 hv3 hr13 hr23 T3 hle03
    obtain ⟨ra, rn, rvs, rfl, hra, hral⟩ := hr13
    obtain ⟨ca, cn', cvs, rfl, hca, hcal⟩ := hr23
    have hrl := hral.length
    have hcl := hcal.length
    have hR := P.rl
    refine x_assignComp ?_
    refine e_loc (by repeat first | assumption | exact upd_same | refine upd_ne (by decide) ?_) ?_
    refine comp_list (TList TInt) TBy signs hA.hh hra hral (by omega) ?_ ?_
    · intro d v fz₁ ex B'' C mC hf0 hle0 hfs2 hd hr hle
      have T4 : Tp mg mb B''.f0 := hf0 ▸ T3
      refine e_call ?_
      refine e_glob (by assumption) (by rfl) ?_
      refine c_fn T4.f77 ?_
      refine a_cons ?_
      refine e_loc (by repeat first | assumption | exact upd_same | refine upd_ne (by decide) ?_) ?_
      refine a_nil ?_
      refine l_fl ?_
      obtain ⟨d8, d3⟩ := P.r8 d hd
      refine written_call (k0 := k0 + 2) (T3.mono hle) (hrm.le (by omega)) hr d8 d3 fun t4 => ?_
      exact fun s S => cdone S (Fz.le_refl _) ⟨_, rfl⟩
    · intro D acc k fz4 C oC mC hle4 hacc hC
      refine rr_use (by assumption) ?_
      refine fzL ?_
      have hD : (TList TBy).R (fz4.add D (listOf acc.toArray k)) (.ref D) ((rowsOf ds).map signs) := TList.of Fz.add_self (hacc.up Fz.le_add)
      have hle04 : fz3.le (fz4.add D (listOf acc.toArray k)) := Fz.le_trans hle4 Fz.le_add
      have hD0 : (fz4.add D (listOf acc.toArray k)) D (listOf acc.toArray k) := Fz.add_self
      have hDal := hacc.up (g := fz4.add D (listOf acc.toArray k)) Fz.le_add
      generalize fz4.add D (listOf acc.toArray k) = fz5 at hD hle04 hD0 hDal
      have T5 := T3.mono hle04
      have hw5 := hle04 _ _ hw3
      have hra5 := hle04 _ _ hra
      have hral5 := hral.up hle04
      have hca5 := hle04 _ _ hca
      have hcal5 := hcal.up hle04
      have hv5 := (TList TInt).mono hle04 hv3
      refine y_cons ?_
      refine y_assign ?_
      refine y_bin ?_
      refine y_any ?_
      refine e_comp ?_
      refine e_loc (by repeat first | assumption | exact upd_same | refine upd_ne (by decide) ?_) ?_
      refine comp_list (TList TInt) TBy signs hA.hh hca5 hcal5 (by simp) ?_ ?_
      · intro d v fz₁ ex B'' C mC hf0 hle0 hfs2 hd hr hle
        have T4 : Tp mg mb B''.f0 := hf0 ▸ T5
        refine e_call ?_
        refine e_glob (by assumption) (by rfl) ?_
        refine c_fn T4.f77 ?_
        refine a_cons ?_
        refine e_loc (by repeat first | assumption | exact upd_same | refine upd_ne (by decide) ?_) ?_
        refine a_nil ?_
        refine l_fl ?_
        have hd8 : d.length = 8 ∧ D3 d := by
          rcases List.mem_cons.mp hd with rfl | hd
          · exact fSwap_ok h8 h3
          · rw [List.mem_singleton.mp hd]; exact fAnew_ok h8 h3
        refine written_call (k0 := k0 + 2) (T5.mono hle) (hrm.le (by omega)) hr hd8.1 hd8.2 fun t4 => ?_
        exact fun s S => cdone S (Fz.le_refl _) ⟨_, rfl⟩
      · intro D2 acc2 k2 fz6 C2 oC2 mC2 hle6 hacc2 hC2
        refine rr_none (by assumption) ?_
        refine fzL ?_
        refine y_list ?_
        refine y_args ?_
        refine y_call ?_
        refine y_any ?_
        refine e_glob (by assumption) (by rfl) ?_
        refine y_fn T.f72 ?_
        refine a_cons ?_
        refine e_cell (c := L' + 1) rfl (.inl (.inl (hle6 _ _ hw5))) rfl ?_
        refine a_cons ?_
        refine e_int ?_; intro _
        refine a_nil ?_
        refine l_fl ?_
        rw [show (8 : Int) = ((signs ds).length : Int) by rw [signs_len, h8]; rfl]
        refine swap_call (T5.mono (Fz.le_trans hle6 Fz.le_add)) hrm.hh hrm.lt (by rw [signs_len, h8]; decide) (by rw [signs_len, h8]; decide) fun t6 => ?_
        refine y_any ?_
        refine a_nil ?_
        refine y_any ?_
        refine p_newListF (by simp) fun l3 => ?_
        refine y_any ?_
        have hl2 := hacc2.length
        refine p_addL (.inl (.inl Fz.add_self)) (.inl Fz.add_self) (by rw [hl2]; simp) fun fl => ?_
        refine fzL ?_
        have hF : Al (TBy.R (((fz6.add D2 (listOf acc2.toArray k2)).add l3 (listOf [Value.bytes (signs ds).reverse.toArray t6].toArray 0)).add fl (listOf (acc2 ++ [Value.bytes (signs ds).reverse.toArray t6]).toArray 0))) (acc2 ++ [Value.bytes (signs ds).reverse.toArray t6]) [signs (fSwap ds far), signs (fAnew ds far), (signs ds).reverse] :=
          (hacc2.up (by repeat first | exact Fz.le_refl _ | refine Fz.le_trans ?_ Fz.le_add)).snoc ⟨_, rfl⟩
        have hfl : (((fz6.add D2 (listOf acc2.toArray k2)).add l3 (listOf [Value.bytes (signs ds).reverse.toArray t6].toArray 0)).add fl (listOf (acc2 ++ [Value.bytes (signs ds).reverse.toArray t6]).toArray 0)) fl (listOf (acc2 ++ [Value.bytes (signs ds).reverse.toArray t6]).toArray 0) := Fz.add_self
        have hle57 : fz5.le (((fz6.add D2 (listOf acc2.toArray k2)).add l3 (listOf [Value.bytes (signs ds).reverse.toArray t6].toArray 0)).add fl (listOf (acc2 ++ [Value.bytes (signs ds).reverse.toArray t6]).toArray 0)) := Fz.le_trans hle6 (by repeat first | exact Fz.le_refl _ | refine Fz.le_trans ?_ Fz.le_add)
        generalize (((fz6.add D2 (listOf acc2.toArray k2)).add l3 (listOf [Value.bytes (signs ds).reverse.toArray t6].toArray 0)).add fl (listOf (acc2 ++ [Value.bytes (signs ds).reverse.toArray t6]).toArray 0)) = fz7 at hF hfl hle57
        generalize acc2 ++ [Value.bytes (signs ds).reverse.toArray t6] = fvs at hF hfl
        have T7 := T5.mono hle57
        have hw7 := hle57 _ _ hw5
        have ha' := hle57 _ _ (hle04 _ _ (hle03 _ _ ha))
        have hal' := hal.up (Fz.le_trans hle03 (Fz.le_trans hle04 hle57))
        have hD7 := hle57 _ _ hD0
        have hDal7 := hDal.up hle57
        have hra7 := hle57 _ _ hra5
        have hral7 := hral5.up hle57
        have hca7 := hle57 _ _ hca5
        have hcal7 := hcal5.up hle57
        have hv7 := (TList TInt).mono hle57 hv5
        have hDl := hDal.length
        simp only [List.length_cons, List.length_nil] at hcl
        rw [List.length_map] at hDl
        refine y_any ?_
        refine store ?_
        refine y_cons ?_
        refine y_any ?_
        refine x_if ?_
        refine t_or ?_
        refine t_not ?_
        refine t_call ?_
        refine e_call ?_
        refine e_glob (by assumption) (by rfl) ?_
        refine c_fn T.f118 ?_
        refine a_cons ?_
        refine e_bin ?_
        refine e_list ?_
        refine a_cons ?_
        refine e_cell (c := L' + 1) rfl (.inl hw7) rfl ?_
        refine a_nil ?_
        refine p_newListF (by simp) fun l4 => ?_
        refine e_loc (by repeat first | assumption | exact upd_same | refine upd_ne (by decide) ?_) ?_
        refine p_addL (.inl Fz.add_self) (.inl (by repeat first | exact hD7 | refine Or.inl ?_)) (by simp; omega) fun l5 => ?_
        refine fzL ?_
        refine a_cons ?_
        refine e_bin ?_
        refine e_list ?_
        refine a_cons ?_
        refine e_loc (by repeat first | assumption | exact upd_same | refine upd_ne (by decide) ?_) ?_
        refine a_nil ?_
        refine p_newListF (by simp) fun l6 => ?_
        refine e_loc (by repeat first | assumption | exact upd_same | refine upd_ne (by decide) ?_) ?_
        refine p_addL (.inl Fz.add_self) (.inl (by repeat first | exact hra7 | refine Or.inl ?_)) (by simp; omega) fun l7 => ?_
        refine fzL ?_
        refine a_nil ?_
        refine l_fl ?_
        refine are_call (k0 := k0 + 3) (ws := signs ds :: (rowsOf ds).map signs) (rs := ds :: rowsOf ds) (T7.mono (by repeat first | exact Fz.le_refl _ | refine Fz.le_trans ?_ Fz.le_add)) (hrm.le (by omega)) (TList.of (by repeat first | exact Fz.add_self | refine Or.inl ?_) (.cons ⟨_, rfl⟩ (hDal7.up (by repeat first | exact Fz.le_refl _ | refine Fz.le_trans ?_ Fz.le_add))))
          (TList.of (by repeat first | exact Fz.add_self | refine Or.inl ?_) (.cons ((TList TInt).mono (by repeat first | exact Fz.le_refl _ | refine Fz.le_trans ?_ Fz.le_add) hv7) (hral7.up (by repeat first | exact Fz.le_refl _ | refine Fz.le_trans ?_ Fz.le_add)))) (by simp; omega) (by simp; omega) (fun r hr => ?_) ?_
        · rcases List.mem_cons.mp hr with rfl | hr
          · exact ⟨by omega, h3⟩
          · exact ⟨by have := (P.r8 r hr).1; omega, (P.r8 r hr).2⟩
        refine tr_bool ?_
        refine brF (by simp) ?_
        refine t_or ?_
        refine t_not ?_
        refine t_call ?_
        refine e_call ?_
        refine e_glob (by assumption) (by rfl) ?_
        refine c_fn T.f118 ?_
        refine a_cons ?_
        refine e_loc (by repeat first | assumption | exact upd_same | refine upd_ne (by decide) ?_) ?_
        refine a_cons ?_
        refine e_bin ?_
        refine e_loc (by repeat first | assumption | exact upd_same | refine upd_ne (by decide) ?_) ?_
        refine e_list ?_
        refine a_cons ?_
        refine e_sub ?_
        refine e_loc (by repeat first | assumption | exact upd_same | refine upd_ne (by decide) ?_) ?_
        refine e_slice ?_
        refine ep_none ?_
        refine ep_none ?_
        refine ep_some ?_
        refine e_un ?_
        refine e_int ?_; intro _
        refine i_neg fun _ => ?_
        refine p_slObj ?_; intro _
        refine p_cutRev2 (.inl (by repeat first | exact ha' | refine Or.inl ?_)) Fz.add_self (by have := hal.length; omega) fun dr => ?_
        refine fzL ?_
        refine a_nil ?_
        refine p_newListF (by simp) fun l8 => ?_
        skip
        refine p_addL (.inl (by repeat first | exact hca7 | refine Or.inl ?_)) (.inl Fz.add_self) (by simp; omega) fun l9 => ?_
        refine fzL ?_
        refine a_nil ?_
        refine l_fl ?_
        refine are_call (k0 := k0 + 3) (ws := [signs (fSwap ds far), signs (fAnew ds far), (signs ds).reverse]) (rs := [fSwap ds far, fAnew ds far] ++ [ds.reverse]) (T7.mono (by repeat first | exact Fz.le_refl _ | refine Fz.le_trans ?_ Fz.le_add)) (hrm.le (by omega)) (TList.of (by repeat first | exact hfl | refine Or.inl ?_) (hF.up (by repeat first | exact Fz.le_refl _ | refine Fz.le_trans ?_ Fz.le_add)))
          (TList.of (by repeat first | exact Fz.add_self | refine Or.inl ?_) ((hcal7.up (by repeat first | exact Fz.le_refl _ | refine Fz.le_trans ?_ Fz.le_add)).snoc (TList.of (by repeat first | exact Fz.add_self | refine Or.inl ?_) (hal'.up (by repeat first | exact Fz.le_refl _ | refine Fz.le_trans ?_ Fz.le_add)).reverse))) (by simp) (by simp) (fun r hr => ?_) ?_
        · simp only [List.cons_append, List.nil_append, List.mem_cons, List.not_mem_nil, or_false] at hr
          rcases hr with rfl | rfl | rfl
          · exact ⟨by have := (fSwap_ok (far := far) h8 h3).1; omega, (fSwap_ok h8 h3).2⟩
          · exact ⟨by have := (fAnew_ok (far := far) h8 h3).1; omega, (fAnew_ok h8 h3).2⟩
          · exact ⟨by rw [List.length_reverse]; omega, h3.reverse⟩
        refine tr_bool ?_
        refine brF (by simp [signs_rev]) ?_
        refine t_orNil ?_
        refine brF (by decide) ?_
        refine x_nil ?_
        refine weakL (fz := fz7) (by repeat first | exact Fz.le_refl _ | refine Fz.le_trans ?_ Fz.le_add) (Fz.le_trans hle03 (Fz.le_trans hle04 hle57)) ?_
        refine y_cons ?_
        refine y_assign ?_
        refine y_call ?_
        refine y_any ?_
        refine e_glob (by assumption) (by rfl) ?_
        refine y_fn T.f89 ?_
        refine a_cons ?_
        refine e_cell (c := L' + 1) rfl (.inl hw7) rfl ?_
        refine a_nil ?_
        refine l_fl ?_
        refine reached_call (k0 := k0 + 4) P.uni (List.mem_map.mpr ⟨ds, P.me, rfl⟩) T7 (hrm.le (by omega)) fun wv ws fz8 hle8 hws hR1 hR2 hR3 => ?_
        have hperm := P.perm hR1 hR2 hR3
        have hwl := hperm.length_eq
        rw [List.length_map] at hwl
        refine y_any ?_
        refine store_cell (pre := []) (c := L' + 2) rfl hd2 ?_
        refine fzL ?_
        obtain ⟨wa, wn, wvs, rfl, hwa, hwal⟩ := hws
        have hle9 : fz7.le (fz8.add (L' + 2) { o2 with data := .cell (some (.ref wa)) }) := Fz.le_trans hle8 Fz.le_add
        have hwa9 : (fz8.add (L' + 2) { o2 with data := .cell (some (.ref wa)) }) wa (listOf wvs.toArray wn) := .inl hwa
        have hwal9 := hwal.up (g := fz8.add (L' + 2) { o2 with data := .cell (some (.ref wa)) }) Fz.le_add
        have hc9 : (fz8.add (L' + 2) { o2 with data := .cell (some (.ref wa)) }) (L' + 2) { o2 with data := .cell (some (.ref wa)) } := Fz.add_self
        generalize fz8.add (L' + 2) { o2 with data := .cell (some (.ref wa)) } = fz9 at hle9 hwa9 hwal9 hc9
        have T9 := T7.mono hle9
        have hw9 := hle9 _ _ hw7
        have hD9 := hle9 _ _ hD7
        have hDal9 := hDal7.up hle9
        have hfl9 := hle9 _ _ hfl
        have hF9 := hF.up hle9
        refine y_cons ?_
        refine y_any ?_
        refine x_if ?_
        refine t_cmp ?_
        refine e_call ?_
        refine e_bi (by assumption) (by rfl) ?_
        refine c_builtin ?_
        refine a_cons ?_
        refine e_cell (c := L' + 2) rfl (.inl hc9) rfl ?_
        refine a_nil ?_
        refine p_sortedW (.inl hwa9) hwal9 (by omega) fun q1 qs1 zs1 j1 hz1 hp1 hs1 => ?_
        refine fzL ?_
        refine e_call ?_
        refine e_bi (by assumption) (by rfl) ?_
        refine c_builtin ?_
        refine a_cons ?_
        refine e_loc (by repeat first | assumption | exact upd_same | refine upd_ne (by decide) ?_) ?_
        refine a_nil ?_
        refine p_sortedW (.inl (by repeat first | exact hD9 | refine Or.inl ?_)) (hDal9.up Fz.le_add) (by rw [List.length_map]; omega) fun q2 qs2 zs2 j2 hz2 hp2 hs2 => ?_
        refine fzL ?_
        have hzz : zs1 = zs2 := sortedB_unique (hp1.trans (hperm.trans hp2.symm)) hs1 hs2
        refine p_neL TBy hrm (by decide) (x := zs1) (y := zs2) (TList.of (by repeat first | exact Fz.add_self | refine Or.inl ?_) (hz1.up (by repeat first | exact Fz.le_refl _ | refine Fz.le_trans ?_ Fz.le_add))) (TList.of (by repeat first | exact Fz.add_self | refine Or.inl ?_) (hz2.up (by repeat first | exact Fz.le_refl _ | refine Fz.le_trans ?_ Fz.le_add))) ?_
        refine tr_bool ?_
        refine brF (by simp [hzz]) ?_
        refine x_nil ?_
        refine weakL (fz := fz9) (by repeat first | exact Fz.le_refl _ | refine Fz.le_trans ?_ Fz.le_add) (Fz.le_trans hle03 (Fz.le_trans hle04 (Fz.le_trans hle57 hle9))) ?_
        refine y_any ?_
        refine x_cons ?_
        refine x_ret ?_
        refine e_cmp ?_
        refine e_comp ?_
        refine e_loc (by repeat first | assumption | exact upd_same | refine upd_ne (by decide) ?_) ?_
        refine comp_list TBy TBool (fun y => toldB (signs ds) y ws) hA.hh hfl9 hF9 (by simp) ?_ ?_
        · intro y v fz₁ ex B'' C mC hf0 hle0 hfs2 hy hr hle
          have T4 : Tp mg mb B''.f0 := hf0 ▸ T9
          obtain ⟨ty, rfl⟩ := hr
          refine e_call ?_
          refine e_glob (by assumption) (by rfl) ?_
          refine c_fn T4.f106 ?_
          refine a_cons ?_
          refine e_cell (c := L' + 1) rfl (.inl (hle _ _ hw9)) rfl ?_
          refine a_cons ?_
          refine e_loc (by repeat first | assumption | exact upd_same | refine upd_ne (by decide) ?_) ?_
          refine a_cons ?_
          refine e_cell (c := L' + 2) rfl (.inl (hle _ _ hc9)) rfl ?_
          refine a_nil ?_
          refine l_fl ?_
          have hy8 : y.length = 8 := by
            simp only [List.mem_cons, List.not_mem_nil, or_false] at hy
            rcases hy with rfl | rfl | rfl
            · rw [signs_len]; exact (fSwap_ok h8 h3).1
            · rw [signs_len]; exact (fAnew_ok h8 h3).1
            · rw [List.length_reverse, signs_len]; exact h8
          refine told_call (k0 := k0 + 2) (T9.mono hle) (hrm.le (by omega)) (by rw [hfs2]; exact hfr'.more) (by rw [signs_len]; exact h8) hy8 (TList.of (hle _ _ hwa9) (hwal9.up hle)) fun fz₂ hle2 => ?_
          exact fun s S => cdone S hle2 rfl
        · intro D9 acc9 k9 fz' C oC mC hle10 hacc9 hC
          refine rr_none (by assumption) ?_
          refine e_list ?_
          refine a_cons ?_
          refine e_bool ?_
          refine a_cons ?_
          refine e_bool ?_
          refine a_cons ?_
          refine e_bool ?_
          refine a_nil ?_
          refine fzL ?_
          refine p_newListF (by simp) fun l11 => ?_
          refine p_eq (TList TBool) hrm (by decide) (x := [signs (fSwap ds far), signs (fAnew ds far), (signs ds).reverse].map fun y => toldB (signs ds) y ws) (y := [true, true, true]) (TList.of (by repeat first | exact Fz.add_self | refine Or.inl ?_) (hacc9.up (by repeat first | exact Fz.le_refl _ | refine Fz.le_trans ?_ Fz.le_add))) (TList.of (by repeat first | exact Fz.add_self | refine Or.inl ?_) (.cons rfl (.cons rfl (.cons rfl .nil)))) ?_
          refine fun s S => Ret.mk S ?_
          have e1 := P.told hperm (fSwap_ok (far := far) h8 h3).1 (fSwap_ok (far := far) h8 h3).2
          have e2 := P.told hperm (fAnew_ok (far := far) h8 h3).1 (fAnew_ok (far := far) h8 h3).2
          have e3 := P.told hperm (r := ds.reverse) (by rw [List.length_reverse]; exact h8) h3.reverse
          rw [← signs_rev] at e3
          refine congrArg Value.bool (decide_eq_true ?_)
          rw [List.map_cons, List.map_cons, List.map_cons, List.map_nil, e1, e2, e3]
  · subst hr
    exact h fz' hle s' S'
end
-- text PL3
section
section
variable {α β : Type} [DecidableEq α]
/-- the pairs of neighbours -/
noncomputable def prs (pr : α → α → β) : List α → List β
  | a :: b :: l => pr a b :: prs pr (b :: l)
  | _ => []
/-- one turn: a stretch with the same sign at either end -/
noncomputable def Step (x y : List α) : Prop := ∃ p s q a, x = p ++ (a :: s ++ [a]) ++ q ∧ y = p ++ (a :: s ++ [a]).reverse ++ q
inductive Rch : List α → List α → Prop
  | rfl (x) : Rch x x
  | step {x y z} : Step x y → Rch y z → Rch x z
theorem Rch.trans {x y z : List α} (h : Rch x y) (h' : Rch y z) : Rch x z := by
  induction h with
  | rfl => exact h'
  | step s _ ih => exact .step s (ih h')
theorem Rch.one {x y : List α} (h : Step x y) : Rch x y := .step h (.rfl _)
theorem Step.cons {x y : List α} (c : α) (h : Step x y) : Step (c :: x) (c :: y) := by
  obtain ⟨p, s, q, a, rfl, rfl⟩ := h
  exact ⟨c :: p, s, q, a, by simp, by simp⟩
theorem Rch.cons {x y : List α} (c : α) (h : Rch x y) : Rch (c :: x) (c :: y) := by
  induction h with
  | rfl => exact .rfl _
  | step s _ ih => exact .step (s.cons c) ih
structure Sym (pr : α → α → β) : Prop where
  sw : ∀ a b, pr a b = pr b a
  inj : ∀ a b c d, pr a b = pr c d → (a = c ∧ b = d) ∨ (a = d ∧ b = c)
variable {pr : α → α → β}
theorem prs_cons2 (a b : α) (l : List α) : prs pr (a :: b :: l) = pr a b :: prs pr (b :: l) := rfl
theorem prs_split (pr : α → α → β) (a : α) : ∀ (u v : List α), prs pr (u ++ a :: v) = prs pr (u ++ [a]) ++ prs pr (a :: v) := by
  intro u
  induction u with
  | nil => intro v; rfl
  | cons c u ih =>
    intro v
    cases u with
    | nil => rfl
    | cons d u => exact congrArg (pr c d :: ·) (ih v)
theorem prs_rev (hs : Sym pr) : ∀ l : List α, (prs pr l.reverse).Perm (prs pr l) := by
  intro l
  induction l with
  | nil => exact .refl _
  | cons a l ih =>
    cases l with
    | nil => exact .refl _
    | cons b l =>
      rw [List.reverse_cons, List.reverse_cons, List.append_assoc, List.singleton_append, prs_split]
      rw [List.reverse_cons] at ih
      have e : prs pr [b, a] = [pr a b] := by show [pr b a] = _; rw [hs.sw]
      rw [e, prs_cons2]
      exact (List.perm_append_singleton _ _).trans (List.Perm.cons _ ih)
theorem prs_three (pr : α → α → β) (p s q : List α) (a b : α) : prs pr (p ++ (a :: s ++ [b]) ++ q) = prs pr (p ++ [a]) ++ (prs pr (a :: s ++ [b]) ++ prs pr (b :: q)) := by
  have e1 : p ++ (a :: s ++ [b]) ++ q = p ++ a :: (s ++ b :: q) := by simp
  have e2 : a :: (s ++ b :: q) = (a :: s) ++ b :: q := by simp
  rw [e1, prs_split pr a p, e2, prs_split pr b (a :: s)]
/-- a turn keeps the pairs -/
theorem Step.keeps (hs : Sym pr) {x y : List α} (h : Step x y) : (prs pr y).Perm (prs pr x) := by
  obtain ⟨p, s, q, a, rfl, rfl⟩ := h
  have e : (a :: s ++ [a]).reverse = a :: s.reverse ++ [a] := by simp
  have e2 : prs pr (a :: s.reverse ++ [a]) = prs pr (a :: s ++ [a]).reverse := by rw [e]
  rw [e, prs_three, prs_three, e2]
  exact ((prs_rev hs _).append_right _).append_left _
theorem Step.head {x y : List α} (h : Step x y) : x.head? = y.head? := by
  obtain ⟨p, s, q, a, rfl, rfl⟩ := h
  cases p <;> simp
theorem Rch.head {x y : List α} (h : Rch x y) : x.head? = y.head? := by
  induction h with
  | rfl => exact Eq.refl _
  | step s _ ih => exact s.head.trans ih
theorem Rch.keeps (hs : Sym pr) {x y : List α} (h : Rch x y) : (prs pr y).Perm (prs pr x) := by
  induction h with
  | rfl => exact .refl _
  | step s _ ih => exact ih.trans (s.keeps hs)
/-- where a pair stands -/
theorem prs_mem {e : β} : ∀ {l : List α}, e ∈ prs pr l → ∃ u a b v, l = u ++ a :: b :: v ∧ e = pr a b := by
  intro l
  induction l with
  | nil => intro h; cases h
  | cons a l ih =>
    cases l with
    | nil => intro h; cases h
    | cons b l =>
      intro h
      rcases List.mem_cons.mp h with rfl | h
      · exact ⟨[], a, b, l, rfl, rfl⟩
      · obtain ⟨u, c, d, v, e1, e2⟩ := ih h
        exact ⟨a :: u, c, d, v, by rw [e1]; rfl, e2⟩
/-- a way over pairs that each lie within R or within S, from within R, stays within R -/
theorem stays (hs : Sym pr) {R S : α → Prop} (hd : ∀ z, R z → S z → False) : ∀ (l : List α) (c : α), R c → (∀ e ∈ prs pr (c :: l), ∃ a b, e = pr a b ∧ ((R a ∧ R b) ∨ (S a ∧ S b))) → ∀ z ∈ c :: l, R z := by
  intro l
  induction l with
  | nil => intro c hc _ z hz; rw [List.mem_singleton.mp hz]; exact hc
  | cons d l ih =>
    intro c hc h z hz
    rcases List.mem_cons.mp hz with rfl | hz
    · exact hc
    · refine ih d ?_ (fun e he => h e (.tail _ he)) z hz
      obtain ⟨a, b, e, h1⟩ := h (pr c d) (.head _)
      rcases hs.inj _ _ _ _ e with ⟨rfl, rfl⟩ | ⟨rfl, rfl⟩
      · rcases h1 with h1 | h1
        · exact h1.2
        · exact (hd _ hc h1.1).elim
      · rcases h1 with h1 | h1
        · exact h1.1
        · exact (hd _ hc h1.2).elim
theorem prs_mem_verts {e : β} {l : List α} (h : e ∈ prs pr l) : ∃ a b, e = pr a b ∧ a ∈ l ∧ b ∈ l := by
  obtain ⟨u, a, b, v, rfl, rfl⟩ := prs_mem h
  exact ⟨a, b, rfl, by simp, by simp⟩
/-- the word turned so that it goes on as the other does -/
theorem turn_on (hs : Sym pr) {a b c : α} {x y : List α} (h : (prs pr (a :: b :: x)).Perm (prs pr (a :: c :: y))) : ∃ x', Rch (a :: b :: x) (a :: c :: x') := by
  by_cases hbc : b = c
  · subst hbc; exact ⟨x, .rfl _⟩
  -- from a place where c stands before a
  have case1 : ∀ (u v : List α), (u ++ c :: a :: v).head? = some a → ∃ x', Rch (u ++ c :: a :: v) (a :: c :: x') := by
    intro u v hu
    cases u with
    | nil =>
      have : c = a := by simpa using hu
      subst this
      exact ⟨v, .rfl _⟩
    | cons d u =>
      have : d = a := by simpa using hu
      subst this
      refine ⟨u.reverse ++ [d] ++ v, Rch.one ⟨[], u ++ [c], v, d, by simp, by simp⟩⟩
  have hm : pr a c ∈ prs pr (a :: b :: x) := h.mem_iff.mpr (.head _)
  obtain ⟨u, p, q, v, hx, he⟩ := prs_mem hm
  rcases hs.inj _ _ _ _ he with ⟨rfl, rfl⟩ | ⟨rfl, rfl⟩
  · -- a before c
    cases u with
    | nil => exact absurd (List.cons.inj (List.cons.inj hx).2).1 hbc
    | cons d u =>
      obtain rfl : a = d := (List.cons.inj hx).1
      by_cases hsh : ∃ t, t ∈ a :: u ∧ t ∈ c :: v
      · obtain ⟨t, ht1, ht2⟩ := hsh
        obtain ⟨u1, u2, hu⟩ := List.append_of_mem ht1
        obtain ⟨r1, r2, hr⟩ := List.append_of_mem ht2
        have hx2 : a :: b :: x = u1 ++ (t :: (u2 ++ [a] ++ r1) ++ [t]) ++ r2 := by
          rw [hx, show (a :: u) ++ a :: c :: v = (a :: u) ++ (a :: (c :: v)) from rfl, hu, hr]; simp
        have hst : Step (a :: b :: x) (u1 ++ (t :: (u2 ++ [a] ++ r1) ++ [t]).reverse ++ r2) := ⟨u1, _, r2, t, hx2, rfl⟩
        have hrev : ∃ w, t :: r1.reverse = w ++ [c] := by
          cases r1 with
          | nil =>
            have : c = t := (List.cons.inj hr).1
            subst this
            exact ⟨[], rfl⟩
          | cons d r1 =>
            have : c = d := (List.cons.inj hr).1
            subst this
            exact ⟨t :: r1.reverse, by simp⟩
        obtain ⟨w, hw⟩ := hrev
        have hy : u1 ++ (t :: (u2 ++ [a] ++ r1) ++ [t]).reverse ++ r2 = (u1 ++ w) ++ c :: a :: (u2.reverse ++ [t] ++ r2) := by
          have : (t :: (u2 ++ [a] ++ r1) ++ [t]).reverse = (t :: r1.reverse) ++ (a :: (u2.reverse ++ [t])) := by simp
          rw [this, hw]
          simp
        have hhd := hst.head
        rw [hy] at hst hhd
        obtain ⟨x', hx'⟩ := case1 _ _ hhd.symm
        exact ⟨x', .step hst hx'⟩
      · exfalso
        have hd : ∀ z, z ∈ c :: v → z ∈ a :: u → False := fun z h1 h2 => hsh ⟨z, h2, h1⟩
        have hx3 : prs pr (a :: b :: x) = prs pr ((a :: u) ++ [a]) ++ (pr a c :: prs pr (c :: v)) := by
          rw [hx, prs_split, prs_cons2]
        rw [hx3] at h
        have h2 : (prs pr ((a :: u) ++ [a]) ++ prs pr (c :: v)).Perm (prs pr (c :: y)) := by
          have := List.perm_middle.symm.trans h
          exact List.Perm.cons_inv this
        have hall := stays hs (R := fun z => z ∈ c :: v) (S := fun z => z ∈ a :: u) hd y c (.head _) fun e he => by
          rcases List.mem_append.mp (h2.mem_iff.mpr he) with he | he
          · obtain ⟨p, q, e1, e2, e3⟩ := prs_mem_verts he
            refine ⟨p, q, e1, .inr ⟨?_, ?_⟩⟩
            · rcases List.mem_append.mp e2 with e2 | e2
              · exact e2
              · rw [List.mem_singleton.mp e2]; exact .head _
            · rcases List.mem_append.mp e3 with e3 | e3
              · exact e3
              · rw [List.mem_singleton.mp e3]; exact .head _
          · obtain ⟨p, q, e1, e2, e3⟩ := prs_mem_verts he
            exact ⟨p, q, e1, .inl ⟨e2, e3⟩⟩
        -- the first pair of the stretch
        have hfirst : ∃ b', pr a b' ∈ prs pr ((a :: u) ++ [a]) := by
          cases u with
          | nil => exact ⟨a, .head _⟩
          | cons d u => exact ⟨d, .head _⟩
        obtain ⟨b', hb'⟩ := hfirst
        have hin : pr a b' ∈ prs pr (c :: y) := h2.mem_iff.mp (List.mem_append_left _ hb')
        obtain ⟨p, q, e1, e2, e3⟩ := prs_mem_verts hin
        have ha : a ∈ c :: v := by
          rcases hs.inj _ _ _ _ e1 with ⟨rfl, _⟩ | ⟨rfl, _⟩
          · exact hall _ e2
          · exact hall _ e3
        exact hd a ha (.head _)
  · have hhd : (u ++ c :: a :: v).head? = some a := by rw [← hx]; rfl
    rw [hx]
    exact case1 u v hhd
/-- words with the same first sign and the same pairs come by turning from one another -/
theorem kotzig (hs : Sym pr) : ∀ (y x : List α), x.head? = y.head? → (prs pr x).Perm (prs pr y) → x.length = y.length → Rch x y := by
  intro y
  induction y with
  | nil => intro x _ _ hl; rw [List.eq_nil_of_length_eq_zero hl]; exact .rfl _
  | cons a y ih =>
    intro x hh hp hl
    cases x with
    | nil => cases hh
    | cons a' x =>
      obtain rfl : a' = a := by simpa using hh
      cases y with
      | nil => rw [List.eq_nil_of_length_eq_zero (l := x) (by simpa using hl)]; exact .rfl _
      | cons c y =>
        cases x with
        | nil => simp at hl
        | cons b x =>
          obtain ⟨x', hx'⟩ := turn_on hs hp
          have hp' := (hx'.keeps hs).trans hp
          have h2 : (prs pr (c :: x')).Perm (prs pr (c :: y)) := List.Perm.cons_inv hp'
          refine hx'.trans (Rch.cons _ (ih (c :: x') rfl h2 ?_))
          have := hp'.length_eq
          have hlen : ∀ (l : List α) (a : α), (prs pr (a :: l)).length = l.length := by
            intro l
            induction l with
            | nil => intro a; rfl
            | cons b l ih => intro a; exact congrArg (· + 1) (ih b)
          rw [hlen, hlen] at this
          simpa using this
end
end
-- text PL4
noncomputable def prU (a b : UInt8) : Int × Int := pairU (a, b)
theorem prs_zip {α β : Type} (f : α × α → β) : ∀ l : List α, (l.zip (l.drop 1)).map f = prs (fun a b => f (a, b)) l := by
  intro l
  induction l with
  | nil => rfl
  | cons a l ih =>
    cases l with
    | nil => rfl
    | cons b l => exact congrArg (f (a, b) :: ·) ih
theorem pairsOf_prs (l : List UInt8) : pairsOf l = prs prU l := prs_zip pairU l
theorem symU : Sym prU where
  sw := fun a b => by unfold prU pairU; dsimp only; ext <;> dsimp only <;> (repeat' split) <;> omega
  inj := fun a b c d h => by
    unfold prU pairU at h
    have h1 := congrArg Prod.fst h
    have h2 := congrArg Prod.snd h
    dsimp only at h1 h2
    have key : ((a.toNat : Int) = c.toNat ∧ (b.toNat : Int) = d.toNat) ∨ ((a.toNat : Int) = d.toNat ∧ (b.toNat : Int) = c.toNat) := by
      split at h1 <;> split at h1 <;> split at h2 <;> split at h2 <;> omega
    rcases key with ⟨k1, k2⟩ | ⟨k1, k2⟩
    · exact .inl ⟨UInt8.toNat_inj.mp (Int.ofNat.inj k1), UInt8.toNat_inj.mp (Int.ofNat.inj k2)⟩
    · exact .inr ⟨UInt8.toNat_inj.mp (Int.ofNat.inj k1), UInt8.toNat_inj.mp (Int.ofNat.inj k2)⟩
theorem canT_step {x : List UInt8} (h8 : x.length = 8) {i j : Nat} (h : canT x i j) : Step x (turnB x i j) := by
  obtain ⟨h1, h2, h3⟩ := h
  have hi : i < x.length := by omega
  have hj : j - 1 < x.length := by omega
  rw [List.getD_eq_getElem?_getD, List.getD_eq_getElem?_getD, List.getElem?_eq_getElem hi, List.getElem?_eq_getElem hj] at h3
  have h3' : x[i] = x[j - 1] := h3
  have e1 : (x.drop i).take (j - i) = x[i] :: (x.drop (i + 1)).take (j - i - 2) ++ [x[i]] := by
    rw [List.drop_eq_getElem_cons hi, show j - i = (j - i - 1) + 1 by omega, List.take_succ_cons, List.cons_append]
    congr 1
    rw [show j - i - 1 = (j - i - 2) + 1 by omega, List.take_add_one]
    congr 1
    rw [List.getElem?_drop, show i + 1 + (j - i - 2) = j - 1 by omega, List.getElem?_eq_getElem hj, ← h3']
    simp
  refine ⟨x.take i, (x.drop (i + 1)).take (j - i - 2), x.drop j, x[i], ?_, ?_⟩
  · rw [← e1]
    have : x.drop j = (x.drop i).drop (j - i) := by rw [List.drop_drop]; congr 1; omega
    rw [this, List.append_assoc, List.take_append_drop, List.take_append_drop]
  · unfold turnB
    rw [e1]
theorem step_canT {x y : List UInt8} (h8 : x.length = 8) (h : Step x y) : y = x ∨ ∃ i j, canT x i j ∧ y = turnB x i j := by
  obtain ⟨p, s, q, a, rfl, rfl⟩ := h
  by_cases hs : 2 ≤ s.length
  · refine .inr ⟨p.length, p.length + (s.length + 2), ⟨by omega, ?_, ?_⟩, ?_⟩
    · simp only [List.length_append, List.length_cons, List.length_nil] at h8
      omega
    · rw [List.getD_eq_getElem?_getD, List.getD_eq_getElem?_getD]
      have e1 : (p ++ (a :: s ++ [a]) ++ q)[p.length]? = some a := by simp
      have e2 : (p ++ (a :: s ++ [a]) ++ q)[p.length + (s.length + 2) - 1]? = some a := by
        rw [show p.length + (s.length + 2) - 1 = p.length + (s.length + 1) by omega]
        rw [List.append_assoc, List.getElem?_append_right (by omega), show p.length + (s.length + 1) - p.length = s.length + 1 by omega]
        simp
      rw [e1, e2]
    · unfold turnB
      have e1 : (p ++ (a :: s ++ [a]) ++ q).take p.length = p := by simp
      have e2 : (p ++ (a :: s ++ [a]) ++ q).drop p.length = (a :: s ++ [a]) ++ q := by simp
      have e3 : (p ++ (a :: s ++ [a]) ++ q).drop (p.length + (s.length + 2)) = q := by
        have : p.length + (s.length + 2) = (p ++ (a :: s ++ [a])).length := by simp
        rw [this, List.drop_left]
      have e4 : ((a :: s ++ [a]) ++ q).take (p.length + (s.length + 2) - p.length) = a :: s ++ [a] := by
        have : p.length + (s.length + 2) - p.length = (a :: s ++ [a]).length := by simp
        rw [this, List.take_left]
      rw [e1, e2, e3, e4]
  · refine .inl ?_
    have : (a :: s ++ [a]).reverse = a :: s ++ [a] := by
      match s, hs with
      | [], _ => rfl
      | [b], _ => rfl
      | b :: c :: s, hs => exact absurd (by simp : 2 ≤ (b :: c :: s).length) hs
    rw [this]
theorem Step.len {α : Type} {x y : List α} (h : Step x y) : y.length = x.length := by
  obtain ⟨p, s, q, a, rfl, rfl⟩ := h
  simp
theorem closed_rch {ws : List (List UInt8)} (hc : ∀ x ∈ ws, ∀ i j, canT x i j → turnB x i j ∈ ws) {x y : List UInt8} (h : Rch x y) : x.length = 8 → x ∈ ws → y ∈ ws := by
  induction h with
  | rfl => exact fun _ h => h
  | step s _ ih =>
    intro h8 hx
    refine ih (by rw [s.len]; exact h8) ?_
    rcases step_canT h8 s with e | ⟨i, j, h1, e⟩
    · rw [e]; exact hx
    · rw [e]; exact hc _ hx i j h1
-- text PL5
theorem lastI_snoc (r : List Int) (d : Int) : lastI (r ++ [d]) = d := by
  unfold lastI
  simp
theorem prs_snoc : ∀ (r : List Int) (d : Int), r ≠ [] → prs kdI (r ++ [d]) = prs kdI r ++ [kdI (lastI r) d] := by
  intro r
  induction r with
  | nil => intro d h; exact absurd rfl h
  | cons a r ih =>
    intro d _
    cases r with
    | nil => rfl
    | cons b r =>
      have e : lastI (a :: b :: r) = lastI (b :: r) := by
        unfold lastI
        simp
      rw [e]
      exact congrArg (kdI a b :: ·) (ih d (by simp))
theorem bump_len (c : List Int) (p : Int × Int) : (bump c p).length = c.length := by unfold bump; rw [List.length_set]
theorem bump_get {c : List Int} (h6 : c.length = 6) (p : Int × Int) {k : Nat} (hk : k < 6) : (bump c p).getD k 0 = c.getD k 0 + if kdI p.1 p.2 = k then 1 else 0 := by
  unfold bump
  rw [List.getD_eq_getElem?_getD, List.getElem?_set]
  by_cases h : kdI p.1 p.2 = k
  · subst h
    rw [if_pos rfl, if_pos (by omega), if_pos rfl]
    rfl
  · rw [if_neg h, if_neg h, List.getD_eq_getElem?_getD]
    omega
theorem fold_get : ∀ (l : List (Int × Int)) (c : List Int), c.length = 6 → ∀ k, k < 6 → (l.foldl bump c).getD k 0 = c.getD k 0 + (((l.map fun p => kdI p.1 p.2).count k : Nat) : Int) := by
  intro l
  induction l with
  | nil => intro c _ k _; simp
  | cons p l ih =>
    intro c h6 k hk
    rw [List.foldl_cons, ih _ (by rw [bump_len, h6]) k hk, bump_get h6 p hk, List.map_cons, List.count_cons]
    by_cases h : kdI p.1 p.2 = k
    · simp [h]; omega
    · simp [h]
theorem cntOf_get {ds : List Int} (h8 : ds.length = 8) {k : Nat} (hk : k < 6) : (cntOf ds 7).getD k 0 = (((prs kdI ds).count k : Nat) : Int) := by
  unfold cntOf
  rw [List.take_of_length_le (by rw [List.length_zip, List.length_drop]; omega), fold_get _ _ rfl k hk]
  have e : (ds.zip (ds.drop 1)).map (fun p => kdI p.1 p.2) = prs kdI ds := prs_zip (fun p => kdI p.1 p.2) ds
  rw [e]
  have e2 : ([0, 0, 0, 0, 0, 0] : List Int).getD k 0 = 0 := by
    match k, hk with
    | 0, _ => rfl
    | 1, _ => rfl
    | 2, _ => rfl
    | 3, _ => rfl
    | 4, _ => rfl
    | 5, _ => rfl
  rw [e2]
  omega
theorem decL_get {l : List Int} {k : Nat} (hk : k < l.length) (j : Nat) : (decL l k).getD j 0 = if j = k then l.getD k 0 - 1 else l.getD j 0 := by
  unfold decL
  rw [List.append_assoc, List.getD_eq_getElem?_getD]
  by_cases h1 : j < k
  · rw [List.getElem?_append_left (by rw [List.length_take]; omega), List.getElem?_take, if_pos h1, if_neg (by omega), List.getD_eq_getElem?_getD]
  · rw [List.getElem?_append_right (by rw [List.length_take]; omega), List.length_take, Nat.min_eq_left (by omega)]
    by_cases h2 : j = k
    · subst h2
      rw [if_pos rfl, Nat.sub_self]
      rfl
    · rw [if_neg h2, List.getElem?_append_right (by simp; omega), List.getElem?_drop, List.getD_eq_getElem?_getD]
      congr 2
      simp
      omega
structure Inv (ds : List Int) (i : Nat) (p : List Int × List Int) : Prop where
  len : p.1.length = i + 1
  d3 : D3 p.1
  head : p.1.head? = ds.head?
  l6 : p.2.length = 6
  get : ∀ k, k < 6 → p.2.getD k 0 = (((prs kdI ds).count k : Nat) : Int) - (((prs kdI p.1).count k : Nat) : Int)
  pos : ∀ k, k < 6 → 0 ≤ p.2.getD k 0
theorem kdI_lt (a b : Int) : kdI a b < 6 := Nat.lt_succ_of_le (kd_le _ _)
theorem Inv.ext {ds : List Int} {i : Nat} {p q : List Int × List Int} {d : Int} (I : Inv ds i p) (hd : 0 ≤ d ∧ d < 3) (h : q ∈ ext p d) : Inv ds (i + 1) q := by
  obtain ⟨h0, rfl⟩ := mem_ext h
  have hne : p.1 ≠ [] := by intro e; have := I.len; rw [e] at this; cases this
  have hk := kdI_lt (lastI p.1) d
  have hkl : kdI (lastI p.1) d < p.2.length := by rw [I.l6]; exact hk
  refine ⟨by simp [I.len], I.d3.snoc hd.1 hd.2, ?_, by rw [decL_len hkl, I.l6], fun k hk6 => ?_, fun k hk6 => ?_⟩
  · show (p.1 ++ [d]).head? = _
    rw [List.head?_append, I.head]
    cases e : ds.head? with
    | some _ => rfl
    | none =>
      have := I.head
      rw [e] at this
      exact absurd (List.head?_eq_none_iff.mp this) hne
  · show (decL p.2 (kdI (lastI p.1) d)).getD k 0 = _
    rw [decL_get hkl, prs_snoc _ _ hne, List.count_append, List.count_cons]
    by_cases e : k = kdI (lastI p.1) d
    · subst e
      rw [if_pos rfl, I.get _ hk]
      simp
      omega
    · have e2 : ¬ kdI (lastI p.1) d = k := fun x => e x.symm
      rw [if_neg e, I.get _ hk6]
      simp [e2]
  · show 0 ≤ (decL p.2 (kdI (lastI p.1) d)).getD k 0
    rw [decL_get hkl]
    split
    · omega
    · exact I.pos k hk6
theorem mem_grow {g : List (List Int × List Int)} {q : List Int × List Int} : q ∈ grow g g.length ↔ ∃ p ∈ g, ∃ d, (d = 0 ∨ d = 1 ∨ d = 2) ∧ q ∈ ext p d := by
  unfold grow exts
  rw [List.take_length]
  simp only [List.mem_flatMap]
  refine exists_congr fun p => and_congr_right fun _ => exists_congr fun d => and_congr_left fun _ => ?_
  simp
theorem grown_sound {ds : List Int} (h8 : ds.length = 8) (h3 : D3 ds) : ∀ i, ∀ p ∈ grown ds i, Inv ds i p := by
  intro i
  induction i with
  | zero =>
    intro p hp
    rw [List.mem_singleton.mp hp]
    cases ds with
    | nil => cases h8
    | cons a ds =>
      refine ⟨rfl, fun x hx => h3 x (List.take_subset _ _ hx), rfl, cntOf_len _ _, fun k hk => ?_, fun k hk => ?_⟩
      · show (cntOf (a :: ds) 7).getD k 0 = _ - (((prs kdI [a]).count k : Nat) : Int)
        rw [cntOf_get h8 hk]
        show _ = _ - (0 : Int)
        omega
      · show 0 ≤ (cntOf (a :: ds) 7).getD k 0
        rw [cntOf_get h8 hk]
        omega
  | succ i ih =>
    intro q hq
    obtain ⟨p, hp, d, hd, hq⟩ := mem_grow.mp hq
    exact (ih p hp).ext (by omega) hq
theorem snoc_of {α : Type} {r : List α} {n : Nat} (h : r.length = n + 1) : ∃ r' d, r = r' ++ [d] ∧ r'.length = n := by
  have hne : r ≠ [] := by intro e; rw [e] at h; cases h
  refine ⟨r.dropLast, r.getLast hne, (List.dropLast_concat_getLast hne).symm, ?_⟩
  rw [List.length_dropLast, h]
  rfl
theorem grown_full {ds : List Int} (h8 : ds.length = 8) (h3 : D3 ds) : ∀ i (r : List Int), r.length = i + 1 → D3 r → r.head? = ds.head? → (∀ k, (prs kdI r).count k ≤ (prs kdI ds).count k) → ∃ l, (r, l) ∈ grown ds i := by
  intro i
  induction i with
  | zero =>
    intro r hl _ hh _
    refine ⟨cntOf ds 7, ?_⟩
    cases r with
    | nil => cases hl
    | cons a r =>
      obtain rfl : r = [] := List.eq_nil_of_length_eq_zero (by simpa using hl)
      cases ds with
      | nil => cases hh
      | cons b ds =>
        obtain rfl : a = b := by simpa using hh
        exact .head _
  | succ i ih =>
    intro r hl h3r hh hc
    obtain ⟨r', d, rfl, hl'⟩ := snoc_of hl
    have hne : r' ≠ [] := by intro e; rw [e] at hl'; cases hl'
    have hd := h3r d (by simp)
    have hcnt : ∀ k, (prs kdI (r' ++ [d])).count k = (prs kdI r').count k + if kdI (lastI r') d = k then 1 else 0 := by
      intro k
      rw [prs_snoc _ _ hne, List.count_append, List.count_cons]
      by_cases e : kdI (lastI r') d = k <;> simp [e]
    obtain ⟨l, hm⟩ := ih r' hl' (fun x hx => h3r x (List.mem_append_left _ hx)) (by
      rw [← hh, List.head?_append]
      cases r' with
      | nil => exact absurd rfl hne
      | cons => rfl) fun k => by have := hc k; rw [hcnt] at this; omega
    have I := grown_sound h8 h3 i _ hm
    have hk := kdI_lt (lastI r') d
    have hg := I.get _ hk
    have hcc := hc (kdI (lastI r') d)
    rw [hcnt, if_pos rfl] at hcc
    refine ⟨decL l (kdI (lastI r') d), mem_grow.mpr ⟨_, hm, d, by omega, ?_⟩⟩
    unfold ext
    have hpos : 0 < l.getD (kdI (lastI r') d) 0 := by
      have hg' : l.getD (kdI (lastI r') d) 0 = (((prs kdI ds).count (kdI (lastI r') d) : Nat) : Int) - (((prs kdI r').count (kdI (lastI r') d) : Nat) : Int) := hg
      omega
    rw [if_pos hpos]
    exact .head _
theorem snoc_inj {α : Type} {a b : List α} {x y : α} (h : a ++ [x] = b ++ [y]) : a = b ∧ x = y := by
  have := List.append_inj' h rfl
  exact ⟨this.1, by simpa using this.2⟩
theorem grown_nodup (ds : List Int) : ∀ i, (grown ds i).Pairwise fun p q => p.1 ≠ q.1 := by
  intro i
  induction i with
  | zero => exact List.pairwise_singleton _ _
  | succ i ih =>
    show (grow (grown ds i) (grown ds i).length).Pairwise _
    unfold grow exts
    rw [List.take_length, List.pairwise_flatMap]
    refine ⟨fun p _ => ?_, ih.imp fun hpq x hx y hy => ?_⟩
    · rw [List.pairwise_flatMap]
      refine ⟨fun d _ => ?_, ?_⟩
      · unfold ext
        split
        · exact List.pairwise_singleton _ _
        · exact .nil
      · have : ([0, 1, 2] : List Int).Pairwise (· ≠ ·) := by decide
        refine (show (([0, 1, 2] : List Int).take 3).Pairwise (· ≠ ·) from this).imp fun hde x hx y hy e => ?_
        obtain ⟨_, rfl⟩ := mem_ext hx
        obtain ⟨_, rfl⟩ := mem_ext hy
        exact hde (snoc_inj e).2
    · obtain ⟨d, _, hx⟩ := List.mem_flatMap.mp hx
      obtain ⟨d', _, hy⟩ := List.mem_flatMap.mp hy
      obtain ⟨_, rfl⟩ := mem_ext hx
      obtain ⟨_, rfl⟩ := mem_ext hy
      exact fun e => hpq (snoc_inj e).1
theorem rows_nodup (ds : List Int) : (rowsOf ds).Nodup := List.pairwise_map.mpr (grown_nodup ds 7)
theorem perm_of_le {α : Type} [DecidableEq α] : ∀ {a b : List α}, (∀ k, a.count k ≤ b.count k) → a.length = b.length → a.Perm b := by
  intro a
  induction a with
  | nil => intro b _ hl; rw [List.eq_nil_of_length_eq_zero hl.symm]
  | cons x a ih =>
    intro b h hl
    have hx : x ∈ b := List.count_pos_iff.mp (by have := h x; rw [List.count_cons_self] at this; omega)
    refine .trans (List.Perm.cons x (ih (b := b.erase x) (fun k => ?_) ?_)) (List.perm_cons_erase hx).symm
    · have := h k
      rw [List.count_cons] at this
      rw [List.count_erase]
      by_cases e : x = k
      · subst e; simp at this ⊢; omega
      · simp [e] at this ⊢; omega
    · rw [List.length_erase_of_mem hx]
      simp at hl
      omega
theorem prs_len {α β : Type} (pr : α → α → β) : ∀ (l : List α), (prs pr l).length = l.length - 1 := by
  intro l
  induction l with
  | nil => rfl
  | cons a l ih =>
    cases l with
    | nil => rfl
    | cons b l => exact congrArg (· + 1) ih
theorem mem_rows {ds r : List Int} (h8 : ds.length = 8) (h3 : D3 ds) : r ∈ rowsOf ds ↔ r.length = 8 ∧ D3 r ∧ r.head? = ds.head? ∧ (prs kdI r).Perm (prs kdI ds) := by
  constructor
  · intro h
    obtain ⟨p, hp, rfl⟩ := List.mem_map.mp h
    have I := grown_sound h8 h3 7 p hp
    refine ⟨I.len, I.d3, I.head, perm_of_le (fun k => ?_) (by rw [prs_len, prs_len, h8, I.len])⟩
    by_cases hk : k < 6
    · have h1 := I.get k hk
      have h2 := I.pos k hk
      omega
    · have : (prs kdI p.1).count k = 0 := by
        refine List.count_eq_zero.mpr fun hm => ?_
        obtain ⟨u, a, b, v, _, e⟩ := prs_mem hm
        have := kdI_lt a b
        omega
      omega
  · rintro ⟨h1, h2, h3', h4⟩
    obtain ⟨l, hl⟩ := grown_full h8 h3 7 r h1 h2 h3' fun k => Nat.le_of_eq (h4.count_eq k)
    exact List.mem_map.mpr ⟨_, hl, rfl⟩
-- text PL6
noncomputable def kp (k : Nat) : Int × Int := [(45, 45), (45, 95), (45, 97), (95, 95), (95, 97), (97, 97)].getD k (0, 0)
noncomputable def kq (p : Int × Int) : Nat := if p.1 = 45 then (if p.2 = 45 then 0 else if p.2 = 95 then 1 else 2) else if p.1 = 95 then (if p.2 = 95 then 3 else 4) else 5
theorem kq_kp {k : Nat} (h : k < 6) : kq (kp k) = k := by
  match k, h with
  | 0, _ => rfl
  | 1, _ => rfl
  | 2, _ => rfl
  | 3, _ => rfl
  | 4, _ => rfl
  | 5, _ => rfl
theorem prU_kp {a b : Int} (ha : 0 ≤ a ∧ a < 3) (hb : 0 ≤ b ∧ b < 3) : prU (sgn a) (sgn b) = kp (kdI a b) := by
  obtain rfl | rfl | rfl : a = 0 ∨ a = 1 ∨ a = 2 := by omega
  all_goals obtain rfl | rfl | rfl : b = 0 ∨ b = 1 ∨ b = 2 := by omega
  all_goals decide
theorem prs_signs : ∀ {r : List Int}, D3 r → prs prU (signs r) = (prs kdI r).map kp := by
  intro r
  induction r with
  | nil => intro _; rfl
  | cons a r ih =>
    intro h
    cases r with
    | nil => rfl
    | cons b r =>
      have e := ih fun x hx => h x (.tail _ hx)
      show prU (sgn a) (sgn b) :: prs prU (signs (b :: r)) = kp (kdI a b) :: _
      rw [prU_kp (h a (.head _)) (h b (.tail _ (.head _))), e]
theorem kinds_lt {r : List Int} : ∀ k ∈ prs kdI r, k < 6 := by
  intro k hk
  obtain ⟨u, a, b, v, _, e⟩ := prs_mem hk
  rw [e]
  exact kdI_lt a b
theorem unkp {r : List Int} : ((prs kdI r).map kp).map kq = prs kdI r := by
  rw [List.map_map]
  have : (prs kdI r).map (kq ∘ kp) = (prs kdI r).map id := List.map_congr_left fun k hk => kq_kp (kinds_lt k hk)
  rw [this, List.map_id]
theorem pairs_iff {r ds : List Int} (h : D3 r) (h' : D3 ds) : (pairsOf (signs r)).Perm (pairsOf (signs ds)) ↔ (prs kdI r).Perm (prs kdI ds) := by
  rw [pairsOf_prs, pairsOf_prs, prs_signs h, prs_signs h']
  constructor
  · intro hp
    have := hp.map kq
    rw [unkp, unkp] at this
    exact this
  · exact fun hp => hp.map kp
theorem head_iff {r ds : List Int} (h : D3 r) (h' : D3 ds) (h8 : r.length = 8) (h8' : ds.length = 8) : (signs r).getD 0 0 = (signs ds).getD 0 0 ↔ r.head? = ds.head? := by
  cases r with
  | nil => cases h8
  | cons a r =>
    cases ds with
    | nil => cases h8'
    | cons b ds =>
      show sgn a = sgn b ↔ some a = some b
      exact ⟨fun e => by rw [sgn_inj (h a (.head _)) (h' b (.head _)) e], fun e => by cases e; rfl⟩
-- the count
noncomputable def goN : Nat → Nat → Nat → Nat → Nat → Nat → Nat → Nat → Nat
  | 0, _, _, _, _, _, _, _ => 1
  | n + 1, 0, a, b, c, d, e, f => Nat.add (match a with | 0 => 0 | a + 1 => goN n 0 a b c d e f) (Nat.add (match b with | 0 => 0 | b + 1 => goN n 1 a b c d e f) (match c with | 0 => 0 | c + 1 => goN n 2 a b c d e f))
  | n + 1, 1, a, b, c, d, e, f => Nat.add (match b with | 0 => 0 | b + 1 => goN n 0 a b c d e f) (Nat.add (match d with | 0 => 0 | d + 1 => goN n 1 a b c d e f) (match e with | 0 => 0 | e + 1 => goN n 2 a b c d e f))
  | n + 1, _, a, b, c, d, e, f => Nat.add (match c with | 0 => 0 | c + 1 => goN n 0 a b c d e f) (Nat.add (match e with | 0 => 0 | e + 1 => goN n 1 a b c d e f) (match f with | 0 => 0 | f + 1 => goN n 2 a b c d e f))
noncomputable def vecs (k n : Nat) : List (List Nat) := match k with
  | 0 => match n with | 0 => [[]] | _ => []
  | k + 1 => (List.range (n + 1)).flatMap fun a => (vecs k (n - a)).map (a :: ·)
noncomputable def okV (l : List Nat) : Bool := match l with
  | [a, b, c, d, e, f] => Nat.blt (goN 7 0 a b c d e f) 64 && Nat.blt (goN 7 1 a b c d e f) 64 && Nat.blt (goN 7 2 a b c d e f) 64
  | _ => true
theorem okV_all : (vecs 6 7).all okV = true := by decide +kernel
theorem mem_vecs : ∀ (l : List Nat), l ∈ vecs l.length l.sum := by
  intro l
  induction l with
  | nil => exact .head _
  | cons a l ih =>
    show a :: l ∈ (List.range ((a :: l).sum + 1)).flatMap fun x => (vecs l.length ((a :: l).sum - x)).map (x :: ·)
    refine List.mem_flatMap.mpr ⟨a, List.mem_range.mpr (by rw [List.sum_cons]; omega), List.mem_map.mpr ⟨l, ?_, rfl⟩⟩
    rw [List.sum_cons, Nat.add_sub_cancel_left]
    exact ih
noncomputable def cntG (n : Nat) (p : List Int × List Int) : Nat := goN n (lastI p.1).toNat (p.2.getD 0 0).toNat (p.2.getD 1 0).toNat (p.2.getD 2 0).toNat (p.2.getD 3 0).toNat (p.2.getD 4 0).toNat (p.2.getD 5 0).toNat
noncomputable def pre (x : Nat) (F : Nat → Nat) : Nat := match x with | 0 => 0 | x + 1 => F x
theorem pre_key {n : Nat} {r L : List Int} {k x : Nat} {F : Nat → Nat} {d : Int} (h1 : L.getD k 0 = (x : Int)) (h2 : ∀ y, x = y + 1 → cntG n (r ++ [d], decL L k) = F y) :
    ((if 0 < L.getD k 0 then [(r ++ [d], decL L k)] else []).map (cntG n)).sum = pre x F := by
  rw [h1]
  cases x with
  | zero => rfl
  | succ x =>
    rw [if_pos (by omega)]
    show cntG n _ + 0 = F x
    rw [h2 x rfl]
    rfl
theorem exts_sum3 (n : Nat) (p : List Int × List Int) : ((exts p 3).map (cntG n)).sum = ((ext p 0).map (cntG n)).sum + (((ext p 1).map (cntG n)).sum + ((ext p 2).map (cntG n)).sum) := by
  show (((([0, 1, 2] : List Int).take 3).flatMap (ext p)).map (cntG n)).sum = _
  show ((ext p 0 ++ (ext p 1 ++ (ext p 2 ++ []))).map (cntG n)).sum = _
  rw [List.append_nil, List.map_append, List.sum_append, List.map_append, List.sum_append]
theorem exts_sum {n : Nat} {r : List Int} {a b c e f g : Nat} (hx : lastI r = 0 ∨ lastI r = 1 ∨ lastI r = 2) :
    ((exts (r, [(a : Int), b, c, e, f, g]) 3).map (cntG n)).sum = cntG (n + 1) (r, [(a : Int), b, c, e, f, g]) := by
  rw [exts_sum3]
  have hr : cntG (n + 1) (r, [(a : Int), b, c, e, f, g]) = goN (n + 1) (lastI r).toNat a b c e f g := rfl
  rw [hr]
  unfold ext
  dsimp only
  rcases hx with hx | hx | hx <;> rw [hx]
  · rw [show kdI 0 0 = 0 from rfl, show kdI 0 1 = 1 from rfl, show kdI 0 2 = 2 from rfl,
      pre_key (x := a) (F := fun a => goN n 0 a b c e f g) rfl (fun y hy => by subst hy; simp [cntG, lastI_snoc, decL]),
      pre_key (x := b) (F := fun b => goN n 1 a b c e f g) rfl (fun y hy => by subst hy; simp [cntG, lastI_snoc, decL]),
      pre_key (x := c) (F := fun c => goN n 2 a b c e f g) rfl (fun y hy => by subst hy; simp [cntG, lastI_snoc, decL])]
    rfl
  · rw [show kdI 1 0 = 1 from rfl, show kdI 1 1 = 3 from rfl, show kdI 1 2 = 4 from rfl,
      pre_key (x := b) (F := fun b => goN n 0 a b c e f g) rfl (fun y hy => by subst hy; simp [cntG, lastI_snoc, decL]),
      pre_key (x := e) (F := fun e => goN n 1 a b c e f g) rfl (fun y hy => by subst hy; simp [cntG, lastI_snoc, decL]),
      pre_key (x := f) (F := fun f => goN n 2 a b c e f g) rfl (fun y hy => by subst hy; simp [cntG, lastI_snoc, decL])]
    rfl
  · rw [show kdI 2 0 = 2 from rfl, show kdI 2 1 = 4 from rfl, show kdI 2 2 = 5 from rfl,
      pre_key (x := c) (F := fun c => goN n 0 a b c e f g) rfl (fun y hy => by subst hy; simp [cntG, lastI_snoc, decL]),
      pre_key (x := f) (F := fun f => goN n 1 a b c e f g) rfl (fun y hy => by subst hy; simp [cntG, lastI_snoc, decL]),
      pre_key (x := g) (F := fun g => goN n 2 a b c e f g) rfl (fun y hy => by subst hy; simp [cntG, lastI_snoc, decL])]
    rfl
theorem six {l : List Int} (h6 : l.length = 6) (hp : ∀ k, k < 6 → 0 ≤ l.getD k 0) : ∃ a b c e f g : Nat, l = [(a : Int), b, c, e, f, g] := by
  match l, h6 with
  | [a, b, c, e, f, g], _ =>
    have h0 : 0 ≤ a := hp 0 (by decide)
    have h1 : 0 ≤ b := hp 1 (by decide)
    have h2 : 0 ≤ c := hp 2 (by decide)
    have h3 : 0 ≤ e := hp 3 (by decide)
    have h4 : 0 ≤ f := hp 4 (by decide)
    have h5 : 0 ≤ g := hp 5 (by decide)
    obtain ⟨a, rfl⟩ := Int.eq_ofNat_of_zero_le h0
    obtain ⟨b, rfl⟩ := Int.eq_ofNat_of_zero_le h1
    obtain ⟨c, rfl⟩ := Int.eq_ofNat_of_zero_le h2
    obtain ⟨e, rfl⟩ := Int.eq_ofNat_of_zero_le h3
    obtain ⟨f, rfl⟩ := Int.eq_ofNat_of_zero_le h4
    obtain ⟨g, rfl⟩ := Int.eq_ofNat_of_zero_le h5
    exact ⟨a, b, c, e, f, g, rfl⟩
theorem grow_sum {ds : List Int} (h8 : ds.length = 8) (h3 : D3 ds) (i n : Nat) : ((grown ds (i + 1)).map (cntG n)).sum = ((grown ds i).map (cntG (n + 1))).sum := by
  show ((grow (grown ds i) (grown ds i).length).map (cntG n)).sum = _
  unfold grow
  rw [List.take_length]
  have hI := grown_sound h8 h3 i
  generalize grown ds i = G at hI
  induction G with
  | nil => rfl
  | cons p G ih =>
    rw [List.flatMap_cons, List.map_append, List.sum_append, ih fun q hq => hI q (.tail _ hq), List.map_cons, List.sum_cons]
    have I := hI p (.head _)
    obtain ⟨r, l⟩ := p
    obtain ⟨a, b, c, e, f, g, hl⟩ := six I.l6 I.pos
    have hl' : l = _ := hl
    subst hl'
    have hd := lastI_d3 I.d3 (by rw [I.len]; omega)
    rw [exts_sum (by have hd' : 0 ≤ lastI r ∧ lastI r < 3 := hd; omega)]
theorem sum_ones : ∀ (G : List (List Int × List Int)), (G.map (cntG 0)).sum = G.length := by
  intro G
  induction G with
  | nil => rfl
  | cons p G ih => rw [List.map_cons, List.sum_cons, ih, List.length_cons]; show 1 + _ = _; omega
theorem count_sum : ∀ (l : List Nat), (∀ k ∈ l, k < 6) → l.count 0 + (l.count 1 + (l.count 2 + (l.count 3 + (l.count 4 + l.count 5)))) = l.length := by
  intro l
  induction l with
  | nil => intro _; rfl
  | cons x l ih =>
    intro h
    have hx := h x (.head _)
    have := ih fun k hk => h k (.tail _ hk)
    simp only [List.count_cons, List.length_cons]
    have : x = 0 ∨ x = 1 ∨ x = 2 ∨ x = 3 ∨ x = 4 ∨ x = 5 := by omega
    rcases this with rfl | rfl | rfl | rfl | rfl | rfl <;> simp <;> omega
theorem rows_small {ds : List Int} (h8 : ds.length = 8) (h3 : D3 ds) : (rowsOf ds).length < 64 := by
  unfold rowsOf
  rw [List.length_map, ← sum_ones]
  rw [grow_sum h8 h3 6 0, grow_sum h8 h3 5 1, grow_sum h8 h3 4 2, grow_sum h8 h3 3 3, grow_sum h8 h3 2 4, grow_sum h8 h3 1 5, grow_sum h8 h3 0 6]
  show cntG 7 (ds.take 1, cntOf ds 7) + 0 < 64
  have I := grown_sound h8 h3 0 (ds.take 1, cntOf ds 7) (.head _)
  have hd := lastI_d3 I.d3 (by rw [I.len]; omega)
  have hl : ([(cntOf ds 7).getD 0 0 |>.toNat, (cntOf ds 7).getD 1 0 |>.toNat, (cntOf ds 7).getD 2 0 |>.toNat, (cntOf ds 7).getD 3 0 |>.toNat, (cntOf ds 7).getD 4 0 |>.toNat, (cntOf ds 7).getD 5 0 |>.toNat] : List Nat) ∈ vecs 6 7 := by
    have h0 := mem_vecs [(cntOf ds 7).getD 0 0 |>.toNat, (cntOf ds 7).getD 1 0 |>.toNat, (cntOf ds 7).getD 2 0 |>.toNat, (cntOf ds 7).getD 3 0 |>.toNat, (cntOf ds 7).getD 4 0 |>.toNat, (cntOf ds 7).getD 5 0 |>.toNat]
    have hs : ([(cntOf ds 7).getD 0 0 |>.toNat, (cntOf ds 7).getD 1 0 |>.toNat, (cntOf ds 7).getD 2 0 |>.toNat, (cntOf ds 7).getD 3 0 |>.toNat, (cntOf ds 7).getD 4 0 |>.toNat, (cntOf ds 7).getD 5 0 |>.toNat] : List Nat).sum = 7 := by
      have hc := count_sum (prs kdI ds) kinds_lt
      rw [prs_len, h8] at hc
      simp only [List.sum_cons, List.sum_nil]
      rw [cntOf_get h8 (by decide), cntOf_get h8 (by decide), cntOf_get h8 (by decide), cntOf_get h8 (by decide), cntOf_get h8 (by decide), cntOf_get h8 (by decide)]
      simp only [Int.toNat_natCast]
      omega
    rw [hs] at h0
    exact h0
  have hok := List.all_eq_true.mp okV_all _ hl
  unfold cntG
  dsimp only
  generalize ((cntOf ds 7).getD 0 0).toNat = a at hok
  generalize ((cntOf ds 7).getD 1 0).toNat = b at hok
  generalize ((cntOf ds 7).getD 2 0).toNat = c at hok
  generalize ((cntOf ds 7).getD 3 0).toNat = e at hok
  generalize ((cntOf ds 7).getD 4 0).toNat = f at hok
  generalize ((cntOf ds 7).getD 5 0).toNat = g at hok
  unfold okV at hok
  rw [Bool.and_eq_true, Bool.and_eq_true] at hok
  obtain ⟨⟨o1, o2⟩, o3⟩ := hok
  have hd' : lastI (ds.take 1) = 0 ∨ lastI (ds.take 1) = 1 ∨ lastI (ds.take 1) = 2 := by
    have hd2 : 0 ≤ lastI (ds.take 1) ∧ lastI (ds.take 1) < 3 := hd
    omega
  rcases hd' with h | h | h <;> rw [h]
  · exact Nat.blt_eq.mp o1
  · exact Nat.blt_eq.mp o2
  · exact Nat.blt_eq.mp o3
theorem signs_take (r : List Int) (i j : Nat) : turnB (signs r) i j = signs (r.take i ++ ((r.drop i).take (j - i)).reverse ++ r.drop j) := by
  unfold turnB signs
  simp [List.map_take, List.map_drop, List.map_append, List.map_reverse]
theorem plain_ok {ds : List Int} (h8 : ds.length = 8) (h3 : D3 ds) : Plain ds := by
  have mr : ∀ {r : List Int}, r ∈ rowsOf ds ↔ r.length = 8 ∧ D3 r ∧ (signs r).getD 0 0 = (signs ds).getD 0 0 ∧ (pairsOf (signs r)).Perm (pairsOf (signs ds)) := by
    intro r
    rw [mem_rows h8 h3]
    constructor
    · rintro ⟨a, b, c, d⟩
      exact ⟨a, b, (head_iff b h3 a h8).mpr c, (pairs_iff b h3).mpr d⟩
    · rintro ⟨a, b, c, d⟩
      exact ⟨a, b, (head_iff b h3 a h8).mp c, (pairs_iff b h3).mp d⟩
  have hhead : ∀ {x y : List UInt8}, x.length = 8 → y.length = 8 → (x.head? = y.head? ↔ x.getD 0 0 = y.getD 0 0) := by
    intro x y hx hy
    cases x with
    | nil => cases hx
    | cons a x =>
      cases y with
      | nil => cases hy
      | cons b y =>
        show some a = some b ↔ a = b
        exact ⟨fun e => by cases e; rfl, fun e => by rw [e]⟩
  refine ⟨rows_small h8 h3, fun r hr => ⟨(mr.mp hr).1, (mr.mp hr).2.1⟩, rows_nodup ds, mr.mpr ⟨h8, h3, rfl, .refl _⟩, ?_, ?_, ?_⟩
  · intro r hr i j hc
    obtain ⟨r1, r2, r3, r4⟩ := mr.mp hr
    have hst := canT_step (by rw [signs_len]; exact r1) hc
    rw [signs_take] at hst ⊢
    refine List.mem_map.mpr ⟨_, mr.mpr ⟨?_, ?_, ?_, ?_⟩, rfl⟩
    · have := hst.len
      rw [signs_len, signs_len] at this
      omega
    · intro x hx
      refine r2 x ?_
      rcases List.mem_append.mp hx with hx | hx
      · rcases List.mem_append.mp hx with hx | hx
        · exact List.take_subset _ _ hx
        · exact List.drop_subset _ _ (List.take_subset _ _ (List.mem_reverse.mp hx))
      · exact List.drop_subset _ _ hx
    · rw [← r3]
      refine ((hhead ?_ ?_).mp hst.head).symm
      · rw [signs_len]; exact r1
      · rw [hst.len, signs_len]; exact r1
    · refine .trans ?_ r4
      rw [pairsOf_prs, pairsOf_prs]
      exact hst.keeps symU
  · intro ws hw hc r hr
    obtain ⟨r1, r2, r3, r4⟩ := mr.mp hr
    refine closed_rch hc (kotzig symU (signs r) (signs ds) ?_ ?_ ?_) (by rw [signs_len]; exact h8) hw
    · exact (hhead (by rw [signs_len]; exact h8) (by rw [signs_len]; exact r1)).mpr r3.symm
    · rw [← pairsOf_prs, ← pairsOf_prs]; exact r4.symm
    · rw [signs_len, signs_len]; omega
  · intro r r1 r2
    constructor
    · rintro ⟨a, b⟩
      exact List.mem_map.mpr ⟨r, mr.mpr ⟨r1, r2, b, a.symm⟩, rfl⟩
    · intro h
      obtain ⟨q, hq, e⟩ := List.mem_map.mp h
      obtain ⟨q1, q2, q3, q4⟩ := mr.mp hq
      rw [e] at q3 q4
      exact ⟨q4.symm, q3⟩
-- text ML9
section
variable {prog : Program} {w : World} {A : Around} {E : Value → Shared → Prop} {B : Bs} {L : Addr} {mg mb : Str → Option Value} {m : Str → Option Value} {mu : Led} {fz : Fz} {t u : Tok}
noncomputable def digitsOf (draw : Int) : List Int := (List.range 8).map fun i => draw / 3 ^ (7 - i) % 3
theorem digitsOf_len (draw : Int) : (digitsOf draw).length = 8 := by unfold digitsOf; rw [List.length_map, List.length_range]
theorem digitsOf_d3 (draw : Int) : D3 (digitsOf draw) := by
  intro d hd
  obtain ⟨i, _, rfl⟩ := List.mem_map.mp hd
  omega
theorem law_body {a : Addr} {f c : Value} {o o1 : Obj} {its : Array Value} {n : Nat} {ns : List Int} {fa : Addr} (T : Tp mg mb B.f0) {k0 : Nat} (hA : Rm A (k0 + 8)) (hfr : FrOk A (L :: B.fs)) (ha : B.f0 a o) (hcl : o.cls = .type "list") (hd : o.data = .seq its n) (hi : IntsAre its.toList ns) (hz : its.size ≤ 1000)
    (ho : o1.data = .cell none) :
    ∀ s, Fs B L (mOf [(Str.ofString "script", .ref a)]) [(L + 1, o1)] B.f0 s →
      wpX (model prog w) A (execs (sBody (topS 24)) (envOfC (sName (topS 24)) (sScope (topS 24)) L fa c)) (Ret B L fun v _ => v = .bool true) NE s := by
  have hpk : ∀ lo hi st, ∃ vs1, slicePick its lo hi st = vs1.toArray ∧ IntsAre vs1 (pickNums ns lo hi st) := fun lo hi' st => by
    have := hi.pick lo hi' st
    rw [Array.toArray_toList] at this
    exact ⟨_, (Array.toArray_toList).symm, this⟩
  unfold mOf
  simp only [List.foldl_cons, List.foldl_nil]
  refine y_cons ?_
  refine y_any ?_
  refine x_assign ?_
  refine e_bin ?_
  refine e_int ?_; intro _
  refine e_call ?_
  refine e_bi (by assumption) (by rfl) ?_
  refine c_builtin ?_
  refine a_cons ?_
  refine e_sub ?_
  refine e_loc (by repeat first | assumption | exact upd_same | refine upd_ne (by decide) ?_) ?_
  refine e_slice ?_
  refine ep_some ?_
  refine e_int ?_; intro _
  refine ep_none ?_
  refine ep_some ?_
  refine e_int ?_; intro _
  refine p_slObj ?_; intro _
  refine p_cut (lo := some 0) (hi := none) (st := some 2) (ops := [.ref a, .ref _]) (.inl (.inl ha)) hcl hd Fz.add_self (.int _ _) .none (.int _ _) (by simp) (by omega) (fun b => ?_) (by with_unfolding_all rfl)
  refine a_nil ?_
  obtain ⟨vs1, e1, i1⟩ := hpk (some 0) none (some 2)
  rw [e1]
  refine p_sum hA.hh (.inr (.head _)) i1 fun t1 => ?_
  refine dropL ?_
  refine i_add ?_; intro _
  refine store_cell (pre := []) (c := L + 1) rfl ho ?_
  refine fzL ?_
  refine y_cons ?_
  refine y_any ?_
  refine x_assign ?_
  refine e_bin ?_
  refine e_int ?_; intro _
  refine e_call ?_
  refine e_bi (by assumption) (by rfl) ?_
  refine c_builtin ?_
  refine a_cons ?_
  refine e_sub ?_
  refine e_loc (by repeat first | assumption | exact upd_same | refine upd_ne (by decide) ?_) ?_
  refine e_slice ?_
  refine ep_some ?_
  refine e_int ?_; intro _
  refine ep_none ?_
  refine ep_some ?_
  refine e_int ?_; intro _
  refine p_slObj ?_; intro _
  refine p_cut (lo := some 1) (hi := none) (st := some 2) (ops := [.ref a, .ref _]) (.inl (by repeat first | exact ha | refine Or.inl ?_)) hcl hd Fz.add_self (.int _ _) .none (.int _ _) (by simp) (by omega) (fun b => ?_) (by with_unfolding_all rfl)
  obtain ⟨vs2, e2, i2⟩ := hpk (some 1) none (some 2)
  rw [e2]
  refine a_nil ?_
  refine p_sum hA.hh (.inr (.head _)) i2 fun t2 => ?_
  refine dropL ?_
  refine i_add ?_; intro _
  refine store ?_
  refine y_cons ?_
  refine y_ret ?_
  refine y_call ?_
  refine y_any ?_
  refine e_glob (by assumption) (by rfl) ?_
  refine y_fn T.f123 ?_
  refine a_cons ?_
  refine e_comp ?_
  refine e_call ?_
  refine e_bi (by assumption) (by rfl) ?_
  refine c_type ?_
  refine a_cons ?_
  refine e_int ?_; intro _
  refine a_nil ?_
  refine k_range1 fun r1 t3 t4 t5 => ?_
  refine comp_range (n := 8) TInt (fun i => (907 + (pickNums ns (some 0) none (some 2)).sum) / 3 ^ (7 - i) % 3) hA.hh Fz.add_self (by decide) ?_ ?_
  · intro i tk fz₁ ex B'' C mC hf0 hle0 hfs2 hi8 hle
    refine e_bin ?_
    refine e_bin ?_
    refine e_cell (c := L + 1) rfl (.inl (hle _ _ (by repeat first | exact Fz.add_self | refine Or.inl ?_))) rfl ?_
    refine e_bin ?_
    refine e_int ?_; intro _
    refine e_bin ?_
    refine e_int ?_; intro _
    refine e_loc (by repeat first | assumption | exact upd_same | refine upd_ne (by decide) ?_) ?_
    refine i_sub ?_; intro _
    have hb3 : (Builtin.Int.intBits 3 : Int) = 2 := by decide +kernel
    refine i_pow (by omega) (by rw [hb3]; omega) fun t6 => ?_
    have hp : ((3 : Int) ^ ((7 : Int) - (i : Nat)).toNat) = 3 ^ (7 - i) := by congr 1; omega
    have hp1 : (0 : Int) < 3 ^ (7 - i) ∧ ((3 : Int) ^ (7 - i)).natAbs < 1073741824 := by
      match i, hi8 with
      | 0, _ => decide
      | 1, _ => decide
      | 2, _ => decide
      | 3, _ => decide
      | 4, _ => decide
      | 5, _ => decide
      | 6, _ => decide
      | 7, _ => decide
    rw [hp]
    refine i_divP hp1.1 hp1.2 fun t7 => ?_
    refine e_int ?_; intro _
    refine i_modP (by decide) ?_; intro _
    exact fun s S => cdone S (Fz.le_refl _) ⟨_, rfl⟩
  · intro D acc k fz' C oC mC hle hacc hC
    refine rr_none (by assumption) ?_
    refine a_cons ?_
    refine e_loc (by repeat first | assumption | exact upd_same | refine upd_ne (by decide) ?_) ?_
    refine a_nil ?_
    refine l_fl ?_
    refine fzL ?_
    skip
    have hl9 := digitsOf_len (907 + (pickNums ns (some 0) none (some 2)).sum)
    have hd9 := digitsOf_d3 (907 + (pickNums ns (some 0) none (some 2)).sum)
    have hle0 : B.f0.le (fz'.add D (listOf acc.toArray k)) := Fz.le_trans (Fz.le_trans (by repeat first | exact Fz.le_refl _ | refine Fz.le_trans ?_ Fz.le_add) hle) Fz.le_add
    refine walk_call (k0 := k0) (plain_ok hl9 hd9) (T.mono hle0) hA hfr (TList.of (xs := digitsOf (907 + (pickNums ns (some 0) none (some 2)).sum)) Fz.add_self (hacc.up Fz.le_add)) hl9 hd9 fun fz9 hle9 => ?_
    exact fun s S => Ret.mk S rfl
end
-- text ML10
section
open PySem PySem.W PyProof.Rows PySem.Calls
theorem lookup_mem {α : Type} {l : List (Str × α)} {x : Str} {v : α} (h : l.lookup x = some v) : (x, v) ∈ l := by
  induction l with
  | nil => cases h
  | cons p l ih =>
    obtain ⟨y, w⟩ := p
    rw [List.lookup_cons] at h
    split at h
    · rename_i he
      cases h
      rw [beq_iff_eq.mp he]
      exact .head _
    · exact .tail _ (ih h)
theorem bt_boot : (bt.all fun p => decide (bootBuiltins p.1 = some p.2) && !decide (p.1 = Str.ofString "__name__")) = true := by decide +kernel
theorem nm_gl {x : Str} {v : Value} (h : (x, v) ∈ gl) : (x, some v) ∈ nm := List.mem_append_left _ (List.mem_append_left _ (List.mem_map.mpr ⟨_, h, rfl⟩))
theorem nm_bt {x : Str} {v : Value} (h : (x, v) ∈ bt) : (x, none) ∈ nm := List.mem_append_left _ (List.mem_append_right _ (List.mem_map.mpr ⟨_, h, rfl⟩))
theorem nm_more {p : Str × Option Value} (h : p ∈ [(Str.ofString "_B64", some (Value.bytes B64.toArray 224)), (Str.ofString "_urlsafe_encode_translation", some (.bytes UT.toArray 254)), (Str.ofString "law", some (.ref 128))]) : p ∈ nm := List.mem_append_right _ h
theorem tp_of {w : World} {h : Heap} {mg mb : Str → Option Value} (Y : Ys w h) (G : h.Ns mainGlobals mg) (Bn : h.Ns builtinsNs mb) (nl : h.NoLimit) (hb : ∀ x : Str, x ≠ "__name__" → mb x = bootBuiltins x) : Tp mg mb (fun a o => h.get? a = some o) where
  g := let ⟨o, es, ep, h1, r⟩ := G; ⟨o, h1, es, ep, r⟩
  b := let ⟨o, es, ep, h1, r⟩ := Bn; ⟨o, h1, es, ep, r⟩
  nl := let ⟨mc, ⟨o, es, ep, h1, r⟩, e⟩ := nl; ⟨o, mc, h1, ⟨es, ep, r⟩, e⟩
  hit := fun x v e => nm_of Y.2.2 G (nm_gl (lookup_mem e))
  miss := fun x v e => by
    have hm := lookup_mem e
    refine ⟨nm_of Y.2.2 G (nm_bt hm), ?_⟩
    have := List.all_eq_true.mp bt_boot _ hm
    rw [Bool.and_eq_true, decide_eq_true_eq, Bool.not_eq_true', decide_eq_false_iff_not] at this
    rw [hb x this.2]
    exact this.1
  f28 := Y.1 (28, 27, 2, .none, .none) (List.mem_of_getElem? (i := 0) rfl)
  f35 := Y.1 (35, 34, 4, .none, .none) (List.mem_of_getElem? (i := 1) rfl)
  f42 := Y.1 (42, 41, 5, .none, .none) (List.mem_of_getElem? (i := 2) rfl)
  f65 := Y.1 (65, 64, 11, .none, .none) (List.mem_of_getElem? (i := 5) rfl)
  f72 := Y.1 (72, 71, 13, .none, .none) (List.mem_of_getElem? (i := 6) rfl)
  f77 := Y.1 (77, 76, 15, .none, .none) (List.mem_of_getElem? (i := 7) rfl)
  f82 := Y.1 (82, 81, 16, .none, .none) (List.mem_of_getElem? (i := 8) rfl)
  f89 := Y.1 (89, 88, 17, .none, .none) (List.mem_of_getElem? (i := 9) rfl)
  f94 := Y.1 (94, 93, 18, .none, .none) (List.mem_of_getElem? (i := 10) rfl)
  f99 := Y.1 (99, 98, 19, .none, .none) (List.mem_of_getElem? (i := 11) rfl)
  f106 := Y.1 (106, 105, 20, .none, .none) (List.mem_of_getElem? (i := 12) rfl)
  f113 := Y.1 (113, 112, 21, .none, .none) (List.mem_of_getElem? (i := 13) rfl)
  f118 := Y.1 (118, 117, 22, .none, .none) (List.mem_of_getElem? (i := 14) rfl)
  f123 := Y.1 (123, 122, 23, .none, .none) (List.mem_of_getElem? (i := 15) rfl)
  f50 := Y.1 (50, 49, 7, .none, .ref 43) (List.mem_of_getElem? (i := 3) rfl)
  f58 := Y.1 (58, 57, 9, .ref 51, .none) (List.mem_of_getElem? (i := 4) rfl)
  d51 := Y.2.1
  b64 := ⟨_, nm_of Y.2.2 G (nm_more (.head _))⟩
  utr := ⟨_, nm_of Y.2.2 G (nm_more (.tail _ (.head _)))⟩
end
-- text ML11
section
open PySem PySem.W PyProof.Rows PySem.Calls
theorem callTop {prog : Program} {w : World} {A : Around} {E : Value → Shared → Prop} {s : Shared} {a c k : Nat} {args : List Value} {binds : List (Str × Value)} {Q : Value → Shared → Prop} (hf : FnAt (fun a o => s.heap.get? a = some o) a c k) (nl : s.heap.NoLimit) (hA : A.depth < recursionLimit)
    (hbind : ∀ pm doc, bindArgs (docDef (sName (topS k)) (sParams (topS k)) (sBody (topS k)) (sScope (topS k)) pm (.ref c) doc) ⟨args, []⟩ = pure binds)
    (hloc : (binds.all fun x => decide ((sScope (topS k)).names.lookup x.1 = some .local)) = true)
    (hb : ∀ (L' : Addr) (o : Addr → Obj), (∀ p ∈ cellsFrom (L' + 1) (sScope (topS k)).names [], (o p.2).data = .cell none) →
      ∀ s', Fs ⟨s, fun a o => s.heap.get? a = some o, []⟩ L' (mOf binds) ((cellsFrom (L' + 1) (sScope (topS k)).names []).map fun p => (p.2, o p.2)) (fun a o => s.heap.get? a = some o) s' →
      wpX (model prog w) (A.deeper (envOfC (sName (topS k)) (sScope (topS k)) L' a (.ref c))) (execs (sBody (topS k)) (envOfC (sName (topS k)) (sScope (topS k)) L' a (.ref c))) (fun f s'' => Q (match f with | .ret v => v | _ => .none) s'') NE s')
    (hco : (sScope (topS k)).isCoroutine = false := by rfl) (hgen : (sScope (topS k)).isGenerator = false := by rfl) (hk : (sScope (topS k)).kind = .function := by rfl)
    (hnd : ∀ L', ((cellsFrom (L' + 1) (sScope (topS k)).names []).map (·.1)).Nodup) :
    wpX (model prog w) A (call (.ref a) args) Q E s := by
  obtain ⟨ob, pm, doc, ho, hd, oc, vs, t, hoc, hdc, hq⟩ := hf
  refine wpX_call (codeX_of_tree rfl (wpX_any ?_))
  show wpAny _ A.in1 (callAny (.ref a) ⟨args, []⟩) _ _ s
  simp only [callAny]
  refine wpAny_bind (wpAny_load ho ?_)
  have e1 : (docDef (sName (topS k)) (sParams (topS k)) (sBody (topS k)) (sScope (topS k)) pm (.ref c) doc).scope.isCoroutine = false := hco
  have e2 : (docDef (sName (topS k)) (sParams (topS k)) (sBody (topS k)) (sScope (topS k)) pm (.ref c) doc).scope.isGenerator = false := hgen
  have e3 : (docDef (sName (topS k)) (sParams (topS k)) (sBody (topS k)) (sScope (topS k)) pm (.ref c) doc).body = .stmts (sBody (topS k)) := rfl
  have e4 : (docDef (sName (topS k)) (sParams (topS k)) (sBody (topS k)) (sScope (topS k)) pm (.ref c) doc).code = .ref c := rfl
  simp only [hd, callFunction, e1, e2, e3, e4]
  refine wpAny_bind (m := field (.ref c) 1) (wpAny_field hoc hdc hq (wpAny_bind (wpAny_pure ?_)))
  rw [hbind]
  refine wpAny_bind (wpAny_pure (wpAny_bind ?_))
  refine wpAny_newFunctionEnv_cells hk (fun x hx => .inl (locs hloc x hx)) fun en he s' X => ?_
  have hkl : ∀ x ∈ binds, en.kindOf x.1 = some .local := fun x hx => by subst he; exact locs hloc x hx
  rw [bindL_all _ hkl, bindC_all _ hkl] at X
  subst he
  obtain ⟨h₁, tk, rfl⟩ := X.toInCall.same
  refine wpAny_bind (wpAny_enterFrame (nl.keeps X.toInCall.keep) hA (wpAny_pure (And.intro rfl ?_)))
  have new : ∀ p ∈ cellsFrom (s.heap.objs.size + 1) (sScope (topS k)).names [], s.heap.objs.size < p.2 := fun p hp => X.above p.1 p.2 hp
  have fresh : ∀ {b : Addr}, s.heap.objs.size ≤ b → s.heap.get? b = none := fun {b} hb => Heap.get?_none_of_le hb
  have hcell : ∀ p ∈ cellsFrom (s.heap.objs.size + 1) (sScope (topS k)).names [], ∃ o, h₁.get? p.2 = some o ∧ o.data = .cell none := fun p hp => by
    refine X.cell p.1 p.2 ?_
    have hnd' := hnd s.heap.objs.size
    show (cellsFrom (s.heap.objs.size + 1) (sScope (topS k)).names []).lookup p.1 = some p.2
    generalize cellsFrom (s.heap.objs.size + 1) (sScope (topS k)).names [] = cs at hp hnd' ⊢
    induction cs with
    | nil => cases hp
    | cons q r ih =>
      obtain ⟨n, d⟩ := q
      rw [List.map_cons, List.nodup_cons] at hnd'
      rcases List.mem_cons.mp hp with rfl | hp
      · simp
      · have hne : (p.1 == n) = false := by
          rw [beq_eq_false_iff_ne]
          intro hpn
          exact hnd'.1 (List.mem_map.mpr ⟨p, by assumption, hpn⟩)
        rw [List.lookup_cons, hne]
        exact ih hp hnd'.2
  have S₁ : Fs ⟨s, fun a o => s.heap.get? a = some o, []⟩ s.heap.objs.size (mOf binds) ((cellsFrom (s.heap.objs.size + 1) (sScope (topS k)).names []).map fun p => (p.2, (h₁.get? p.2).getD (listOf #[] 0))) (fun a o => s.heap.get? a = some o) { s with heap := h₁, toks := tk } := by
    refine ⟨rfl, rfl, rfl, X.toInCall.ns, ⟨fun b o e _ => X.toInCall.keep _ _ e, (fun b o e hb => nomatch hb), (fun b hb => nomatch hb), (fun a o _ hb => nomatch hb)⟩, fresh (Nat.le_refl _), Fz.le_refl _, fun b o e => ?_, fun p hp => ?_, ?_⟩
    · exact ⟨X.toInCall.keep _ _ e, Nat.ne_of_lt (Heap.lt_size e), .inl e⟩
    · obtain ⟨q, hq, rfl⟩ := List.mem_map.mp hp
      obtain ⟨o, ho', _⟩ := hcell q hq
      refine ⟨by simp [ho'], Nat.ne_of_gt (new q hq), fun o' e => ?_, fresh (Nat.le_of_lt (new q hq))⟩
      exact absurd (Heap.lt_size e) (Nat.not_lt.mpr (Nat.le_of_lt (new q hq)))
    · rw [List.map_map]
      have := X.apart
      exact List.pairwise_map.mpr this
  have hX := hb _ (fun b => (h₁.get? b).getD (listOf #[] 0)) (fun p hp => by obtain ⟨o, ho', hd'⟩ := hcell p hp; simp [ho', hd']) _ S₁
  exact codeX_func hX
theorem walk_hd : PySem.Challenge.rw_oy0012_01.Holds := by
  refine hd ?_
  intro w s₀ s₁ mg mb G Y fa o pm cd doc dV kV ho hd' hcd hD hmg hg args vals as hpre hlay hrd hwl hlo
  have T := tp_of Y G.T.g G.T.b G.T.nolimit G.T.builtins
  have f128 : FnAt (fun a o => s₁.heap.get? a = some o) 128 127 24 := Y.1 (128, 127, 24, .none, .none) (List.mem_of_getElem? (i := 16) rfl)
  have hfa : fa = 128 := by
    have h1 := nm_of Y.2.2 G.T.g (nm_more (.tail _ (.tail _ (.head _))))
    have h2 : mg (Str.ofString "law") = some (.ref fa) := hmg
    rw [h1] at h2
    cases h2
    rfl
  subst hfa
  clear hd' hcd hD hmg ho
  have hnl := G.T.nolimit
  wrow_args hpre hlay hrd hwl hlo
  rename_i ns _ _ _ _ _ _ _ la lvs _ hL _ _ _ hI _ hcond _
  clear G Y
  obtain ⟨lo, hlo1, hlo2, ln, hlo3⟩ := hL
  have hz : ns.length ≤ 63 := by omega
  have hlen := hI.length
  refine callTop (k := 24) (binds := [(Str.ofString "script", .ref la)]) f128 hnl (by decide) (fun pm doc => rfl) (by rfl) (hnd := fun L' => by show ([Str.ofString "draw"] : List Str).Nodup; decide) fun L' oc hoc s' S' => ?_
  have hc : (cellsFrom (L' + 1) (sScope (topS 24)).names []).map (fun p => (p.2, oc p.2)) = [(L' + 1, oc (L' + 1))] := rfl
  rw [hc] at S'
  have hfr : FrOk (callerA.deeper (envOfC (sName (topS 24)) (sScope (topS 24)) L' 128 (.ref 127))) [L'] := FrOk.deeper (fs := []) ⟨[], rfl, fun e he => nomatch he⟩ rfl rfl
  have hrm : Rm (callerA.deeper (envOfC (sName (topS 24)) (sScope (topS 24)) L' 128 (.ref 127))) 8 := ⟨rfl, Nat.le_of_ble_eq_true rfl, Nat.le_of_ble_eq_true rfl⟩
  refine wpX_mono (law_body (f := .none) (prog := Challenge.rw_oy0012_01.row.prog) (w := w) (B := ⟨s₁, fun a o => s₁.heap.get? a = some o, []⟩) (L := L') (its := lvs.toArray) (ns := ns) (n := ln) T (k0 := 0) hrm hfr hlo1 hlo2 hlo3 (by simpa using hI) (by simp; omega) (hoc (Str.ofString "draw", L' + 1) (.head _)) s' S') (fun f s'' hr => ?_) fun _ _ x => x.elim
  obtain ⟨v, m', mu', fz', rfl, S2, rfl⟩ := hr
  refine ⟨.inl ⟨.bool true, .bool true, [], rfl, fun _ => rfl, .bool _, ?_, fun _ => ⟨List.nodup_nil, fun _ h => nomatch h⟩⟩, ?_, S2.os, ?_⟩
  · simp only [RowW.claim, OpenLaw.row, Bool.and_eq_true]
    refine ⟨?_, ?_⟩
    · simp [WShape.has, WShape.arms]
    · simp [WTm.holds, WTm.value, same]
  · exact .of_keep fun b o e => S2.keep.ex b o e (fun h => nomatch h)
  · exact .of_eq (S2.gens.trans hg)
end
end Mine
end
theorem PySem.Challenge.cw_oy0012_01_holds : PySem.Challenge.rw_oy0012_01.Holds :=
  Mine.walk_hd
