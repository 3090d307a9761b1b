import PyProof.Rows.All
import Wide.All
import OpenK.AllK
import Wide.FinOn
import Lean
import PySem.Challenge.RW_tr0028_01
set_option Elab.async false
set_option maxRecDepth 100000
set_option compiler.extract_closed false
set_option genInjectivity false
set_option genSizeOfSpec false
set_option maxHeartbeats 4000000
set_option linter.unusedVariables false
set_option linter.unusedSimpArgs false
namespace Mine
open PySem PySem.Calls PyProof.Rows PySem.W

/-- plain data -/
inductive D where
  | none | bool (b : Bool) | int (i : Int) | flt (x : UInt64) | str (x : Str) | byt (b : Array UInt8)
  | tup (l : List D) | lst (l : List D) | raw (v : Value)

noncomputable abbrev Own := Addr → Prop
noncomputable def PTup (h : Heap) (a : Addr) (vs : List Value) : Prop := ∃ n, h.get? a = some { cls := .type "tuple", data := .seq vs.toArray n }
noncomputable def PLst (h : Heap) (a : Addr) (vs : List Value) : Prop := ∃ n, h.get? a = some { cls := .type "list", data := .seq vs.toArray n }

mutual
noncomputable def Rep (h : Heap) (own : Own) : D → Value → Prop
  | .none, v => v = .none
  | .bool b, v => v = .bool b
  | .int i, v => ∃ t, v = .int i t
  | .flt x, v => ∃ t, v = .float x t ∧ t ≠ 0
  | .str x, v => ∃ t, v = .str x t
  | .byt x, v => ∃ t, v = .bytes x t
  | .tup l, v => ∃ a vs, v = .ref a ∧ ¬ own a ∧ PTup h a vs ∧ Reps h own l vs
  | .lst l, v => ∃ a vs, v = .ref a ∧ ¬ own a ∧ PLst h a vs ∧ Reps h own l vs
  | .raw w, v => v = w
noncomputable def Reps (h : Heap) (own : Own) : List D → List Value → Prop
  | [], vs => vs = []
  | d :: l, vs => ∃ v r, vs = v :: r ∧ Rep h own d v ∧ Reps h own l r
end

theorem PTup.at {h h' : Heap} {a : Addr} {vs : List Value} (x : PTup h a vs) (k : ∀ o, h.get? a = some o → h'.get? a = some o) : PTup h' a vs := let ⟨n, e⟩ := x; ⟨n, k _ e⟩
theorem PLst.at {h h' : Heap} {a : Addr} {vs : List Value} (x : PLst h a vs) (k : ∀ o, h.get? a = some o → h'.get? a = some o) : PLst h' a vs := let ⟨n, e⟩ := x; ⟨n, k _ e⟩
theorem PTup.is {h : Heap} {a : Addr} {vs : List Value} (x : PTup h a vs) : h.IsTuple a vs.toArray := let ⟨n, e⟩ := x; ⟨_, e, rfl, n, rfl⟩
theorem PTup.is' {h : Heap} {a : Addr} {vs : List Value} (x : PTup h a vs) : IsTup h a vs.toArray := let ⟨n, e⟩ := x; ⟨_, e, rfl, n, rfl⟩
theorem PLst.is {h : Heap} {a : Addr} {vs : List Value} (x : PLst h a vs) : h.IsList a vs.toArray := let ⟨n, e⟩ := x; ⟨_, e, rfl, n, rfl⟩

/-- an object with items -/
noncomputable def sq (o : Obj) : Bool := match o.data with | .seq .. => true | _ => false
noncomputable def fl (o : Obj) : Bool := match o.data with | .fields .. => true | _ => false
mutual
theorem Rep.mono {h h' : Heap} {own own' : Own} (k : ∀ b o, ¬ own b → sq o = true → h.get? b = some o → ¬ own' b ∧ h'.get? b = some o) : ∀ (d : D) {v : Value}, Rep h own d v → Rep h' own' d v
  | .none, _, x => x
  | .bool _, _, x => x
  | .int _, _, x => x
  | .flt _, _, x => x
  | .str _, _, x => x
  | .byt _, _, x => x
  | .raw _, _, x => x
  | .tup l, _, ⟨a, vs, e, n, p, r⟩ => by
    obtain ⟨m, hm⟩ := p
    exact ⟨a, vs, e, (k a _ n rfl hm).1, ⟨m, (k a _ n rfl hm).2⟩, Reps.mono k l r⟩
  | .lst l, _, ⟨a, vs, e, n, p, r⟩ => by
    obtain ⟨m, hm⟩ := p
    exact ⟨a, vs, e, (k a _ n rfl hm).1, ⟨m, (k a _ n rfl hm).2⟩, Reps.mono k l r⟩
theorem Reps.mono {h h' : Heap} {own own' : Own} (k : ∀ b o, ¬ own b → sq o = true → h.get? b = some o → ¬ own' b ∧ h'.get? b = some o) : ∀ (l : List D) {vs : List Value}, Reps h own l vs → Reps h' own' l vs
  | [], _, x => x
  | d :: l, _, ⟨v, r, e, x, y⟩ => ⟨v, r, e, Rep.mono k d x, Reps.mono k l y⟩
end

theorem Reps.length {h : Heap} {own : Own} : ∀ {l : List D} {vs : List Value}, Reps h own l vs → vs.length = l.length
  | [], _, x => by cases x; rfl
  | _ :: l, _, ⟨_, _, e, _, y⟩ => by subst e; simp [Reps.length y]
theorem Reps.get {h : Heap} {own : Own} : ∀ {l : List D} {vs : List Value}, Reps h own l vs → ∀ {i : Nat} {d : D}, l[i]? = some d → ∃ v, vs[i]? = some v ∧ Rep h own d v
  | [], _, _, i, _, e => by simp at e
  | d :: l, _, ⟨v, r, e, x, y⟩, 0, _, q => by subst e; simp at q; subst q; exact ⟨v, rfl, x⟩
  | d :: l, _, ⟨v, r, e, x, y⟩, i + 1, _, q => by subst e; simp at q; obtain ⟨w, h1, h2⟩ := Reps.get y q; exact ⟨w, by simpa using h1, h2⟩
theorem Reps.append {h : Heap} {own : Own} : ∀ {l l' : List D} {vs vs' : List Value}, Reps h own l vs → Reps h own l' vs' → Reps h own (l ++ l') (vs ++ vs')
  | [], _, _, _, x, y => by cases x; exact y
  | d :: l, _, _, _, ⟨v, r, e, x, z⟩, y => by subst e; exact ⟨v, _, rfl, x, Reps.append z y⟩
theorem Reps.take {h : Heap} {own : Own} : ∀ {l : List D} {vs : List Value} (n : Nat), Reps h own l vs → Reps h own (l.take n) (vs.take n)
  | [], _, n, x => by cases x; simp [Reps]
  | d :: l, _, 0, ⟨v, r, e, x, z⟩ => by simp [Reps]
  | d :: l, _, n + 1, ⟨v, r, e, x, z⟩ => by subst e; exact ⟨v, _, rfl, x, Reps.take n z⟩
theorem Reps.drop {h : Heap} {own : Own} : ∀ {l : List D} {vs : List Value} (n : Nat), Reps h own l vs → Reps h own (l.drop n) (vs.drop n)
  | [], _, n, x => by cases x; simp [Reps]
  | d :: l, _, 0, ⟨v, r, e, x, z⟩ => ⟨v, r, e, x, z⟩
  | d :: l, _, n + 1, ⟨v, r, e, x, z⟩ => by subst e; exact Reps.drop n z
theorem Reps.nil {h : Heap} {own : Own} : Reps h own [] [] := rfl
theorem Reps.cons {h : Heap} {own : Own} {d : D} {l : List D} {v : Value} {vs : List Value} (x : Rep h own d v) (y : Reps h own l vs) : Reps h own (d :: l) (v :: vs) := ⟨v, vs, rfl, x, y⟩
theorem Reps.one {h : Heap} {own : Own} {d : D} {v : Value} (x : Rep h own d v) : Reps h own [d] [v] := .cons x .nil

/-- what a run leaves: all objects but those of `mut` -/
structure Step (mt : Own) (s s' : Shared) : Prop where
  keep : ∀ b o, ¬ mt b → s.heap.get? b = some o → s'.heap.get? b = some o
  alive : ∀ b o, s.heap.get? b = some o → ∃ o', s'.heap.get? b = some o'
  os : s'.os = s.os
  gens : ∀ (i : Nat) x, s.gens[i]? = some x → s'.gens[i]? = some x
  bare : AllBare s.gens → AllBare s'.gens
  tk : s.toks ≤ s'.toks
noncomputable abbrev No : Own := fun _ => False
theorem Step.refl (mt : Own) (s : Shared) : Step mt s s := ⟨fun _ _ _ e => e, fun _ o e => ⟨o, e⟩, rfl, fun _ _ e => e, id, Nat.le_refl _⟩
theorem Step.trans {mt : Own} {s s' s'' : Shared} (x : Step mt s s') (y : Step mt s' s'') : Step mt s s'' :=
  ⟨fun b o n e => y.keep b o n (x.keep b o n e), fun b o e => let ⟨o', e'⟩ := x.alive b o e; y.alive b o' e', y.os.trans x.os, fun i z e => y.gens i z (x.gens i z e), fun e => y.bare (x.bare e), Nat.le_trans x.tk y.tk⟩
theorem Step.weak {mt mt' : Own} {s s' : Shared} (x : Step mt s s') (k : ∀ b, mt b → mt' b) : Step mt' s s' :=
  ⟨fun b o n e => x.keep b o (fun q => n (k b q)) e, x.alive, x.os, x.gens, x.bare, x.tk⟩
theorem Step.all {s s' : Shared} (x : Step No s s') : ∀ b o, s.heap.get? b = some o → s'.heap.get? b = some o := fun b o e => x.keep b o id e
theorem Step.non {mt : Own} {s s' : Shared} (x : Step No s s') : Step mt s s' := x.weak fun _ => False.elim
theorem Step.toks {mt : Own} {s : Shared} {t : Nat} (h : s.toks ≤ t := by first | exact Nat.le_refl _ | exact Nat.le_succ _ | assumption | (simp; done) | omega) : Step mt s { s with toks := t } := ⟨fun _ _ _ e => e, fun _ o e => ⟨o, e⟩, rfl, fun _ _ e => e, id, h⟩
theorem Step.heap {mt : Own} {s : Shared} {h : Heap} {t : Nat} (k : ∀ b o, ¬ mt b → s.heap.get? b = some o → h.get? b = some o) (z : ∀ b o, s.heap.get? b = some o → ∃ o', h.get? b = some o') (ht : s.toks ≤ t := by first | exact Nat.le_refl _ | exact Nat.le_succ _ | assumption | (simp; done) | omega) : Step mt s { s with heap := h, toks := t } :=
  ⟨k, z, rfl, fun _ _ e => e, id, ht⟩
theorem Step.ext {mt : Own} {s : Shared} {h : Heap} {t : Nat} (k : ∀ b o, s.heap.get? b = some o → h.get? b = some o) (ht : s.toks ≤ t := by first | exact Nat.le_refl _ | exact Nat.le_succ _ | assumption | (simp; done) | omega) : Step mt s { s with heap := h, toks := t } :=
  .heap (fun b o _ e => k b o e) (fun b o e => ⟨o, k b o e⟩) ht
theorem Step.push {mt : Own} {s : Shared} {o : Obj} {t : Nat} (ht : s.toks ≤ t := by first | exact Nat.le_refl _ | exact Nat.le_succ _ | assumption | (simp; done) | omega) : Step mt s { s with heap := s.heap.push o, toks := t } :=
  .ext (fun _ _ e => Heap.get?_push_of_some _ e) ht
/-- what is new since the start may be turned -/
theorem Step.drop {mt mt' : Own} {s s' s'' : Shared} (x : Step mt s s') (y : Step mt' s' s'') (k : ∀ b o, ¬ mt b → s.heap.get? b = some o → ¬ mt' b) : Step mt s s'' :=
  ⟨fun b o n e => y.keep b o (k b o n e) (x.keep b o n e), fun b o e => let ⟨o', e'⟩ := x.alive b o e; y.alive b o' e', y.os.trans x.os, fun i z e => y.gens i z (x.gens i z e), fun e => y.bare (x.bare e), Nat.le_trans x.tk y.tk⟩

theorem Rep.step {s s' : Shared} {own mt : Own} {d : D} {v : Value} (x : Rep s.heap own d v) (y : Step mt s s') (k : ∀ b, mt b → own b) : Rep s'.heap own d v :=
  x.mono (fun b o n _ e => ⟨n, y.keep b o (fun q => n (k b q)) e⟩) d
theorem Reps.step {s s' : Shared} {own mt : Own} {l : List D} {vs : List Value} (x : Reps s.heap own l vs) (y : Step mt s s') (k : ∀ b, mt b → own b) : Reps s'.heap own l vs :=
  x.mono (fun b o n _ e => ⟨n, y.keep b o (fun q => n (k b q)) e⟩) l
theorem Rep.stepN {s s' : Shared} {own : Own} {d : D} {v : Value} (x : Rep s.heap own d v) (y : Step No s s') : Rep s'.heap own d v := x.step y fun _ => False.elim
theorem Reps.stepN {s s' : Shared} {own : Own} {l : List D} {vs : List Value} (x : Reps s.heap own l vs) (y : Step No s s') : Reps s'.heap own l vs := x.step y fun _ => False.elim
theorem Rep.weak {h : Heap} {own own' : Own} {d : D} {v : Value} (x : Rep h own d v) (k : ∀ b, own' b → own b) : Rep h own' d v := x.mono (fun b _ n _ e => ⟨fun q => n (k b q), e⟩) d
theorem Reps.weak {h : Heap} {own own' : Own} {d : List D} {v : List Value} (x : Reps h own d v) (k : ∀ b, own' b → own b) : Reps h own' d v := x.mono (fun b _ n _ e => ⟨fun q => n (k b q), e⟩) d
noncomputable abbrev Own.add (own : Own) (a : Addr) : Own := fun b => own b ∨ b = a
theorem Rep.add {h : Heap} {own : Own} {a : Addr} {d : D} {v : Value} (x : Rep h own d v) (n : h.get? a = none) : Rep h (own.add a) d v :=
  x.mono (fun b o q _ e => ⟨fun z => z.elim q fun z => (by subst z; rw [n] at e; cases e), e⟩) d
theorem Reps.add {h : Heap} {own : Own} {a : Addr} {d : List D} {v : List Value} (x : Reps h own d v) (n : h.get? a = none) : Reps h (own.add a) d v :=
  x.mono (fun b o q _ e => ⟨fun z => z.elim q fun z => (by subst z; rw [n] at e; cases e), e⟩) d

structure Cx where
  prog : Program
  w : World
  K : Frag
  h₀ : Heap
  mg : Str → Option Value
  mb : Str → Option Value
  tk : Nat
/-- the same where a token was drawn -/
noncomputable def Cx.up (C : Cx) : Cx := { C with tk := 1 }
structure Cx.Ok (C : Cx) : Prop where
  g : C.h₀.Ns mainGlobals C.mg
  b : C.h₀.Ns builtinsNs C.mb
  lim : C.h₀.NoLimit
  bi : ∀ x : Str, x ≠ "__name__" → C.mb x = bootBuiltins x
  nb : NoneBooked C.h₀

structure Aok (n : Nat) (A : Around) : Prop where
  handled : A.handled = none
  depth : A.depth + n ≤ 600
  units : A.units + 10 * n ≤ 6000
theorem Aok.le {n m : Nat} {A : Around} (x : Aok n A) (h : m ≤ n) : Aok m A := ⟨x.handled, by have := x.depth; omega, by have := x.units; omega⟩
theorem Aok.in1 {n : Nat} {A : Around} (x : Aok (n + 1) A) : Aok n A.in1 := ⟨x.handled, by have := x.depth; show A.depth + n ≤ 600; omega, by have := x.units; show A.units + 1 + 10 * n ≤ 6000; omega⟩
theorem Aok.deeper {n : Nat} {A : Around} (x : Aok (n + 1) A) (env : Env) : Aok n (A.deeper env) := ⟨x.handled, by have := x.depth; simp only [Around.deeper]; omega, by have := x.units; simp only [Around.deeper]; omega⟩
theorem Aok.room {n : Nat} {A : Around} (x : Aok n A) : A.depth < recursionLimit := by have := x.depth; show A.depth < 1000; omega
theorem Aok.cline {n : Nat} {A : Around} (x : Aok n A) : A.units < cLine := by have := x.units; show A.units < 9900; omega

/-- the base stands, what is owned is not of it and stands -/
structure Wd (C : Cx) (own : Own) (s : Shared) : Prop where
  base : ∀ b o, C.h₀.get? b = some o → s.heap.get? b = some o
  nown : ∀ b, own b → C.h₀.get? b = none
  oal : ∀ b, own b → ∃ o, s.heap.get? b = some o
  pos : C.tk ≤ s.toks
theorem Wd.step {C : Cx} {own mt : Own} {s s' : Shared} (x : Wd C own s) (y : Step mt s s') (k : ∀ b, mt b → own b) : Wd C own s' :=
  ⟨fun b o e => y.keep b o (fun q => by rw [x.nown b (k b q)] at e; cases e) (x.base b o e), x.nown, fun b e => let ⟨o, q⟩ := x.oal b e; y.alive b o q, Nat.le_trans x.pos y.tk⟩
theorem Wd.stepN {C : Cx} {own : Own} {s s' : Shared} (x : Wd C own s) (y : Step No s s') : Wd C own s' := x.step y fun _ => False.elim
theorem Wd.add {C : Cx} {own : Own} {s s' : Shared} (x : Wd C own s) {a : Addr} (n : s.heap.get? a = none) (k : ∀ b o, s.heap.get? b = some o → s'.heap.get? b = some o) (l : ∃ o, s'.heap.get? a = some o) (t : s.toks ≤ s'.toks) : Wd C (own.add a) s' :=
  ⟨fun b o e => k b o (x.base b o e), fun b e => e.elim (x.nown b) fun e => (by
    subst e
    cases q : C.h₀.get? b with
    | none => rfl
    | some o => (rw [x.base b o q] at n; cases n)), fun b e => e.elim (fun e => let ⟨o, q⟩ := x.oal b e; ⟨o, k b o q⟩) fun e => e ▸ l, Nat.le_trans x.pos t⟩
theorem Wd.weak {C : Cx} {own own' : Own} {s : Shared} (x : Wd C own s) (k : ∀ b, own' b → own b) : Wd C own' s := ⟨x.base, fun b e => x.nown b (k b e), fun b e => x.oal b (k b e), x.pos⟩
theorem none_of_le {h : Heap} {a : Addr} (q : h.objs.size ≤ a) : h.get? a = none := by
  cases e : h.get? a with
  | none => rfl
  | some o => exact absurd (Heap.lt_size e) (Nat.not_lt.mpr q)
theorem fresh_none {h : Heap} : h.get? h.objs.size = none := none_of_le (Nat.le_refl _)
theorem Wd.off {C : Cx} {own : Own} {s : Shared} (x : Wd C own s) {a : Addr} (n : s.heap.get? a = none) : ¬ own a := fun e => by
  obtain ⟨o, q⟩ := x.oal a e
  rw [n] at q; cases q
theorem Wd.new {C : Cx} {own : Own} {s : Shared} (x : Wd C own s) : ¬ own s.heap.objs.size := x.off fresh_none

noncomputable abbrev Names := List (Str × NameKind)
noncomputable abbrev Gam := List (Str × D)

structure Fr1 where
  env : Env
  nm : Names
  own : Own
  mt : Own
  ret : Own
noncomputable abbrev Fr1.add (F : Fr1) (a : Addr) : Fr1 := { F with own := F.own.add a, mt := F.mt.add a }

noncomputable abbrev isCel (k : Option NameKind) : Prop := k = some .cell ∨ k = some .free
/-- the addresses that the names of the frame are kept at -/
noncomputable def Fr1.cellAt (F : Fr1) (b : Addr) : Prop := ∃ x, isCel (F.nm.lookup x) ∧ F.env.cells.lookup x = some b

structure Fm (C : Cx) (F : Fr1) (Γ : Gam) (s : Shared) : Prop where
  wd : Wd C F.own s
  mto : ∀ b, F.mt b → F.own b
  reto : ∀ b, F.ret b → F.own b
  kind : F.env.scope.kind = .function
  co : F.env.scope.isCoroutine = false
  nms : ∀ x, F.env.kindOf x = F.nm.lookup x ∨ (F.nm.lookup x = some .free ∧ F.env.kindOf x = some .cell)
  glob : F.env.globals = mainGlobals
  blt : F.env.builtins = builtinsNs
  mtl : F.mt F.env.locals
  mtc : ∀ x c, F.nm.lookup x = some .cell → F.env.cells.lookup x = some c → F.mt c
  ns : ∃ m, s.heap.Ns F.env.locals m ∧ ∀ x d, Γ.lookup x = some d → F.nm.lookup x = some .local → ∃ v, m x = some v ∧ Rep s.heap F.own d v
  cel : ∀ x, isCel (F.nm.lookup x) → ∃ c o vv, F.env.cells.lookup x = some c ∧ F.own c ∧ c ≠ F.env.locals ∧ s.heap.get? c = some o ∧ o.cls = .type "cell" ∧ o.dict = none ∧ o.slots = #[] ∧ o.data = .cell vv ∧
    ∀ d, Γ.lookup x = some d → ∃ v, vv = some v ∧ Rep s.heap F.own d v
  inj : ∀ x y c, isCel (F.nm.lookup x) → isCel (F.nm.lookup y) → F.env.cells.lookup x = some c → F.env.cells.lookup y = some c → x = y

noncomputable abbrev Bot : Value → Shared → Prop := fun _ _ => False

theorem Fm.step {C : Cx} {F : Fr1} {Γ : Gam} {s s' : Shared} (f : Fm C F Γ s) (y : Step No s s') : Fm C F Γ s' := by
  refine { f with wd := f.wd.stepN y, ns := ?_, cel := fun x hx => ?_ }
  · obtain ⟨m, hn, hm⟩ := f.ns
    exact ⟨m, hn.keeps y.all, fun x d e q => by obtain ⟨v, h1, h2⟩ := hm x d e q; exact ⟨v, h1, h2.stepN y⟩⟩
  · obtain ⟨c, o, vv, h1, h2, h3, h4, h5, h6, h7, h8, h9⟩ := f.cel x hx
    exact ⟨c, o, vv, h1, h2, h3, y.all _ _ h4, h5, h6, h7, h8, fun d e => by obtain ⟨v, e1, e2⟩ := h9 d e; exact ⟨v, e1, e2.stepN y⟩⟩

theorem Fm.add {C : Cx} {F : Fr1} {Γ : Gam} {s s' : Shared} (f : Fm C F Γ s) {a : Addr} (n' : s.heap.get? a = none) (y : Step No s s') (l : ∃ o, s'.heap.get? a = some o) : Fm C (F.add a) Γ s' := by
  have g := f.step y
  refine { f with wd := f.wd.add n' y.all l y.tk, mto := ?_, reto := fun b e => .inl (f.reto b e), mtl := .inl f.mtl, mtc := fun x c e q => .inl (f.mtc x c e q), ns := ?_, cel := fun x hx => ?_ }
  · rintro b (e | rfl)
    · exact .inl (f.mto b e)
    · exact .inr rfl
  · obtain ⟨m, hn, hm⟩ := f.ns
    exact ⟨m, hn.keeps y.all, fun x d e q => by
      obtain ⟨v, h1, h2⟩ := hm x d e q
      exact ⟨v, h1, (h2.add n').mono (fun b o q _ e => ⟨q, y.all b o e⟩) d⟩⟩
  · obtain ⟨c, o, vv, h1, h2, h3, h4, h5, h6, h7, h8, h9⟩ := f.cel x hx
    exact ⟨c, o, vv, h1, .inl h2, h3, y.all _ _ h4, h5, h6, h7, h8, fun d e => by
      obtain ⟨v, e1, e2⟩ := h9 d e
      exact ⟨v, e1, (e2.add n').mono (fun b o q _ e => ⟨q, y.all b o e⟩) d⟩⟩

/-- an iterator's turn: it touches objects of `Z` alone, no sequence, nothing that is owned, and the generators `gs` -/
structure StepI (own : Own) (Z : Own) (gs : Nat → Prop) (s s' : Shared) : Prop where
  keep : ∀ b o, ¬ Z b → s.heap.get? b = some o → s'.heap.get? b = some o
  seq : ∀ b o, sq o = true → s.heap.get? b = some o → s'.heap.get? b = some o
  ow : ∀ b o, own b → s.heap.get? b = some o → s'.heap.get? b = some o
  os : s'.os = s.os
  gens : ∀ (i : Nat) x, ¬ gs i → s.gens[i]? = some x → s'.gens[i]? = some x
  bare : AllBare s.gens → AllBare s'.gens
  tk : s.toks ≤ s'.toks
theorem Rep.stepI {own' Z : Own} {gs : Nat → Prop} {s s' : Shared} {own : Own} {d : D} {v : Value} (x : Rep s.heap own d v) (y : StepI own' Z gs s s') : Rep s'.heap own d v :=
  x.mono (fun _ _ n q e => ⟨n, y.seq _ _ q e⟩) d
theorem Reps.stepI {own' Z : Own} {gs : Nat → Prop} {s s' : Shared} {own : Own} {d : List D} {v : List Value} (x : Reps s.heap own d v) (y : StepI own' Z gs s s') : Reps s'.heap own d v :=
  x.mono (fun _ _ n q e => ⟨n, y.seq _ _ q e⟩) d
theorem Wd.stepI {C : Cx} {own Z : Own} {gs : Nat → Prop} {s s' : Shared} (x : Wd C own s) (y : StepI own Z gs s s') (n : ∀ b, Z b → C.h₀.get? b = none) : Wd C own s' :=
  ⟨fun b o e => y.keep b o (fun q => by rw [n b q] at e; cases e) (x.base b o e), x.nown, fun b e => let ⟨o, q⟩ := x.oal b e; ⟨o, y.ow b o e q⟩, Nat.le_trans x.pos y.tk⟩
theorem Fm.stepI {C : Cx} {F : Fr1} {Γ : Gam} {Z : Own} {gs : Nat → Prop} {s s' : Shared} (f : Fm C F Γ s) (y : StepI F.own Z gs s s') (n : ∀ b, Z b → C.h₀.get? b = none) : Fm C F Γ s' := by
  refine { f with wd := f.wd.stepI y n, ns := ?_, cel := fun x hx => ?_ }
  · obtain ⟨m, ⟨o, es, ep, h1, h2, r⟩, hm⟩ := f.ns
    exact ⟨m, ⟨o, es, ep, y.ow _ _ (f.mto _ f.mtl) h1, h2, r⟩, fun x d e q => by obtain ⟨v, h1, h2⟩ := hm x d e q; exact ⟨v, h1, h2.stepI y⟩⟩
  · obtain ⟨c, o, vv, h1, h2, h3, h4, h5, h6, h7, h8, h9⟩ := f.cel x hx
    exact ⟨c, o, vv, h1, h2, h3, y.ow _ _ h2 h4, h5, h6, h7, h8, fun d e => by obtain ⟨v, e1, e2⟩ := h9 d e; exact ⟨v, e1, e2.stepI y⟩⟩

/-- a run that turns `mt`, the objects `Z` of an iterator and the generators `gs` -/
structure StepG (mt : Own) (Z : Own) (gs : Nat → Prop) (s s' : Shared) : Prop where
  keep : ∀ b o, ¬ mt b → ¬ Z b → s.heap.get? b = some o → s'.heap.get? b = some o
  alive : ∀ b o, ¬ Z b → s.heap.get? b = some o → ∃ o', s'.heap.get? b = some o'
  os : s'.os = s.os
  gens : ∀ (i : Nat) x, ¬ gs i → s.gens[i]? = some x → s'.gens[i]? = some x
  bare : AllBare s.gens → AllBare s'.gens
  tk : s.toks ≤ s'.toks
theorem StepG.trans {mt Z : Own} {gs : Nat → Prop} {s s' s'' : Shared} (x : StepG mt Z gs s s') (y : StepG mt Z gs s' s'') : StepG mt Z gs s s'' :=
  ⟨fun b o n m e => y.keep b o n m (x.keep b o n m e), fun b o m e => let ⟨o', e'⟩ := x.alive b o m e; y.alive b o' m e', y.os.trans x.os, fun i z n e => y.gens i z n (x.gens i z n e), fun e => y.bare (x.bare e), Nat.le_trans x.tk y.tk⟩
theorem Step.g {mt mt' Z : Own} {gs : Nat → Prop} {s s' : Shared} (x : Step mt s s') (k : ∀ b, mt b → mt' b) : StepG mt' Z gs s s' :=
  ⟨fun b o n _ e => x.keep b o (fun q => n (k b q)) e, fun b o _ e => x.alive b o e, x.os, fun i z _ e => x.gens i z e, x.bare, x.tk⟩
theorem StepI.g {own mt Z : Own} {gs : Nat → Prop} {s s' : Shared} (x : StepI own Z gs s s') : StepG mt Z gs s s' :=
  ⟨fun b o _ m e => x.keep b o m e, fun b o m e => ⟨o, x.keep b o m e⟩, x.os, x.gens, x.bare, x.tk⟩
theorem StepG.drop {mt mt' Z : Own} {gs : Nat → Prop} {s s' s'' : Shared} (x : Step mt s s') (y : StepG mt' Z gs s' s'') (k : ∀ b o, ¬ mt b → s.heap.get? b = some o → ¬ mt' b) (na : ∀ b, Z b → s.heap.get? b = none) (g : ∀ i, gs i → s.gens[i]? = none) : Step mt s s'' :=
  have ne : ∀ b o, s.heap.get? b = some o → ¬ Z b := fun b o e q => by rw [na b q] at e; cases e
  ⟨fun b o n e => y.keep b o (k b o n e) (ne b o e) (x.keep b o n e), fun b o e => let ⟨o', e'⟩ := x.alive b o e; y.alive b o' (ne b o e) e', y.os.trans x.os, fun i z e => y.gens i z (fun q => by rw [g i q] at e; cases e) (x.gens i z e), fun e => y.bare (x.bare e), Nat.le_trans x.tk y.tk⟩
theorem StepG.refl {mt Z : Own} {gs : Nat → Prop} {s : Shared} : StepG mt Z gs s s := (Step.refl mt s).g fun _ e => e

/-- fewer words of the names -/
noncomputable def Sub (Γ' Γ : Gam) : Prop := ∀ x d, Γ'.lookup x = some d → Γ.lookup x = some d
theorem Sub.nil {Γ : Gam} : Sub [] Γ := fun _ _ e => by cases e
theorem Sub.cons {Γ' Γ : Gam} {x : Str} {d : D} (h : Γ.lookup x = some d) (r : Sub Γ' Γ) : Sub ((x, d) :: Γ') Γ := fun y e q => by
  rw [List.lookup_cons] at q
  cases hx : y == x with
  | true => rw [hx] at q; cases q; rw [beq_iff_eq.mp hx]; exact h
  | false => rw [hx] at q; exact r y e q
theorem Sub.refl {Γ : Gam} : Sub Γ Γ := fun _ _ e => e
theorem Fm.sub {C : Cx} {F : Fr1} {Γ Γ' : Gam} {s : Shared} (f : Fm C F Γ s) (k : Sub Γ' Γ) : Fm C F Γ' s := by
  refine { f with ns := ?_, cel := fun x hx => ?_ }
  · obtain ⟨m, hn, hm⟩ := f.ns
    exact ⟨m, hn, fun x d e q => hm x d (k x d e) q⟩
  · obtain ⟨c, o, vv, h1, h2, h3, h4, h5, h6, h7, h8, h9⟩ := f.cel x hx
    exact ⟨c, o, vv, h1, h2, h3, h4, h5, h6, h7, h8, fun d e => h9 d (k x d e)⟩

theorem lk_here {Γ : Gam} {x : Str} {d : D} : List.lookup x ((x, d) :: Γ) = some d := by rw [List.lookup_cons]; simp
theorem lk_there {Γ : Gam} {x y : Str} {d e : D} (n : (x == y) = false) (h : List.lookup x Γ = some d) : List.lookup x ((y, e) :: Γ) = some d := by
  rw [List.lookup_cons, n]; exact h

end Mine
namespace Mine
open PySem PySem.Calls PyProof.Rows PySem.W

section
variable (C : Cx)
/-- an expression gives d -/
structure Ev (n : Nat) (nm : Names) (Γ : Gam) (e : Expr) (d : D) : Prop where
  go : ∀ (F : Fr1) A s, F.nm = nm → Aok n A → Fm C F Γ s →
  wpAny (model C.prog C.w) A (eval e F.env) (fun v s' => Step No s s' ∧ Rep s'.heap F.own d v) Bot s
structure Tst (n : Nat) (nm : Names) (Γ : Gam) (e : Expr) (b : Bool) : Prop where
  go : ∀ (F : Fr1) A s, F.nm = nm → Aok n A → Fm C F Γ s →
  wpAny (model C.prog C.w) A (isTrue e F.env (eval e F.env)) (fun r s' => Step No s s' ∧ r = b) Bot s
structure Evs (n : Nat) (nm : Names) (Γ : Gam) (es : List Expr) (ds : List D) : Prop where
  go : ∀ (F : Fr1) A s pos, F.nm = nm → Aok n A → Fm C F Γ s →
  wpAny (model C.prog C.w) A (spliced (backTo pos (starEach es F.env))) (fun vs s' => Step No s s' ∧ Reps s'.heap F.own ds vs) Bot s
noncomputable def Op2 (op : Operator) (d₁ d₂ d : D) : Prop := ∀ A s (own : Own) v₁ v₂, Aok 1 A → Wd C own s → Rep s.heap own d₁ v₁ → Rep s.heap own d₂ v₂ →
  wpAny (model C.prog C.w) A (binaryOp op v₁ v₂) (fun v s' => Step No s s' ∧ Rep s'.heap own d v) Bot s
noncomputable def Iop (op : Operator) (d₁ d₂ d : D) : Prop := ∀ A s (own : Own) v₁ v₂, Aok 1 A → Wd C own s → Rep s.heap own d₁ v₁ → Rep s.heap own d₂ v₂ →
  wpAny (model C.prog C.w) A (inplaceOp op v₁ v₂) (fun v s' => Step No s s' ∧ Rep s'.heap own d v) Bot s
noncomputable def Cmp (op : CmpOp) (d₁ d₂ : D) (b : Bool) : Prop := ∀ A s (own : Own) v₁ v₂, Aok 1 A → Wd C own s → Rep s.heap own d₁ v₁ → Rep s.heap own d₂ v₂ →
  wpAny (model C.prog C.w) A (compareOp op v₁ v₂) (fun v s' => Step No s s' ∧ v = .bool b) Bot s
noncomputable def Tru (d : D) (b : Bool) : Prop := ∀ A s (own : Own) v, Aok 1 A → Wd C own s → Rep s.heap own d v →
  wpAny (model C.prog C.w) A (truthy v) (fun r s' => Step No s s' ∧ r = b) Bot s
/-- a call of a value on places -/
noncomputable def Cal (n : Nat) (f : Value) (ds : List D) (d : D) : Prop := ∀ A s (own : Own) vs, Aok n A → Wd C own s → Reps s.heap own ds vs →
  wpAny (model C.prog C.w) A (call f vs) (fun v s' => Step No s s' ∧ Rep s'.heap own d v) Bot s
/-- a word about the boxes (lists that the frame turns) -/
structure Box where
  I : Fr1 → Heap → Prop
  st : ∀ F h h', (∀ b o, ¬ (b = F.env.locals ∨ F.cellAt b) → sq o = true → h.get? b = some o → h'.get? b = some o) → (∀ b, b = F.env.locals ∨ F.cellAt b → F.own b) → I F h → I F h'
  ad : ∀ F h h' a, h.get? a = none → (∀ b o, h.get? b = some o → h'.get? b = some o) → I F h → I (F.add a) h'
noncomputable def noB : Box := ⟨fun _ _ => True, fun _ _ _ _ _ _ => trivial, fun _ _ _ _ _ _ _ => trivial⟩

inductive Out where
  | nxt (Γ : Gam) (I : Box)
  | ret (d : D)
noncomputable def OutOk (F : Fr1) : Out → Flow → Shared → Prop
  | .nxt Γ I, .next, s => Fm C F Γ s ∧ I.I F s.heap
  | .ret d, .ret v, s => Rep s.heap F.ret d v
  | _, _, _ => False
structure Ex (n : Nat) (nm : Names) (Γ : Gam) (I : Box) (ss : List Stmt) (P : Out → Prop) : Prop where
  go : ∀ (F : Fr1) A s, F.nm = nm → Aok n A → Fm C F Γ s → I.I F s.heap →
  wpAny (model C.prog C.w) A (execs ss F.env) (fun fl s' => Step F.mt s s' ∧ ∃ o, P o ∧ OutOk C F o fl s') Bot s
noncomputable def Ex1 (n : Nat) (nm : Names) (Γ : Gam) (I : Box) (st : Stmt) (P : Out → Prop) : Prop := ∀ (F : Fr1) A s, F.nm = nm → Aok n A → Fm C F Γ s → I.I F s.heap →
  wpAny (model C.prog C.w) A (exec st F.env) (fun fl s' => Step F.mt s s' ∧ ∃ o, P o ∧ OutOk C F o fl s') Bot s
/-- a def's contract -/
noncomputable def Fn (n : Nat) (f : Addr) (ds : List D) (d : D) : Prop := ∀ A s (own : Own) vs, Aok (n + 1) A → Wd C own s → Reps s.heap own ds vs →
  codeAny (model C.prog C.w) A (.call (.ref f) ⟨vs, []⟩) (fun r s' => ∃ v, r = .ok (.ret v) ∧ Step No s s' ∧ Rep s'.heap own d v) s
end

variable {C : Cx} {n : Nat} {nm : Names} {Γ : Gam}

theorem bot_mono {α : Type} {M : Model} {A : Around} {t : Sem α} {Q Q' : α → Shared → Prop} {s : Shared} (h : wpAny M A t Q Bot s) (k : ∀ a s', Q a s' → Q' a s') {E : Value → Shared → Prop} : wpAny M A t Q' E s :=
  wpAny_mono h k fun _ _ x => x.elim

/-! constants, names -/
theorem Ev.nne {k p} : Ev C n nm Γ (.Constant .none k p) .none := .mk fun _ _ _ _ _ _ => wpAny_Constant_none ⟨.refl .., rfl⟩
theorem Ev.bool {b k p} : Ev C n nm Γ (.Constant (.bool b) k p) (.bool b) := .mk fun _ _ _ _ _ _ => wpAny_Constant_bool ⟨.refl .., rfl⟩
theorem Ev.int {i k p} : Ev C n nm Γ (.Constant (.int i) k p) (.int i) := .mk fun _ _ _ _ _ _ => wpAny_Constant_int ⟨.toks, _, rfl⟩
theorem Ev.str {x k p} : Ev C n nm Γ (.Constant (.str x) k p) (.str x) := .mk fun _ _ _ _ _ _ => wpAny_Constant_str ⟨.toks, _, rfl⟩
theorem Ev.flt {x k p} : Ev C.up n nm Γ (.Constant (.float x) k p) (.flt x) := .mk fun _ _ _ _ _ f => AutoFloatOps.wpAny_Constant_float ⟨.toks, _, rfl, Nat.ne_of_gt (show 0 < _ from f.wd.pos)⟩
theorem Ev.byt {x k p} : Ev C n nm Γ (.Constant (.bytes x) k p) (.byt x.toArray) := .mk fun F A s _ _ _ => by
  show wpAny _ _ (mkTextBytes x.toArray) _ _ s
  exact wpAny_bind (wpAny_fresh (wpAny_pure ⟨.toks, _, rfl⟩))

theorem kindOf_of {C : Cx} {F : Fr1} {s : Shared} (f : Fm C F Γ s) {x : Str} {k : NameKind} (e : F.nm.lookup x = some k) (n : k ≠ .free) : F.env.kindOf x = some k := by
  rcases f.nms x with h | h
  · exact h.trans e
  · rw [h.1] at e; cases e; exact absurd rfl n
theorem kindOf_cel {C : Cx} {F : Fr1} {s : Shared} (f : Fm C F Γ s) {x : Str} (e : isCel (F.nm.lookup x)) : isCel (F.env.kindOf x) := by
  rcases f.nms x with h | h
  · rw [h]; exact e
  · exact .inl h.2
theorem Ev.loc {x : Str} {d : D} {p : Pos} (hg : Γ.lookup x = some d) (hk : nm.lookup x = some .local) (hd : (x == ("__debug__" : Str)) = false) : Ev C n nm Γ (.Name x p) d := .mk fun F A s e _ f => by
  subst e
  obtain ⟨m, hn, hm⟩ := f.ns
  obtain ⟨v, h1, h2⟩ := hm x d hg hk
  exact wpAny_Name (wpAny_loadName_local f.kind (kindOf_of f hk (by decide)) hn h1 ⟨.refl .., h2⟩) hd

theorem loadName_cell {M : Model} {A : Around} {E : Value → Shared → Prop} {s : Shared} {env : Env} {x : Str} {c : Addr} {o : Obj} {v : Value} {Q : Value → Shared → Prop} (hk : env.scope.kind = .function)
    (hx : env.kindOf x = some .cell ∨ env.kindOf x = some .free) (hcl : (x == ("__classdict__" : Str)) = false) (hc : env.cells.lookup x = some c) (ho : s.heap.get? c = some o) (hd : o.data = .cell (some v)) (h : Q v s) :
    wpAny M A (loadName env x) Q E s := by
  rcases hx with hx | hx
  · exact wpAny_loadName_cell hk hx hc ⟨o, ho, hd⟩ h
  · exact wpAny_loadName_free hk hx hc ⟨o, ho, hd⟩ h hcl

theorem Ev.cel {x : Str} {d : D} {p : Pos} (hg : Γ.lookup x = some d) (hk : isCel (nm.lookup x)) (hd : (x == ("__debug__" : Str)) = false) (hcl : (x == ("__classdict__" : Str)) = false) : Ev C n nm Γ (.Name x p) d := .mk fun F A s e _ f => by
  subst e
  obtain ⟨c, o, vv, h1, h2, h3, h4, _, _, _, h5, h6⟩ := f.cel x hk
  obtain ⟨v, rfl, h7⟩ := h6 d hg
  exact wpAny_Name (loadName_cell f.kind (kindOf_cel f hk) hcl h1 h4 h5 ⟨.refl .., h7⟩) hd

theorem Ev.glob (O : C.Ok) {x : Str} {v : Value} {p : Pos} (hg : C.mg x = some v) (hk : nm.lookup x = some .globalImplicit) (hd : (x == ("__debug__" : Str)) = false) : Ev C n nm Γ (.Name x p) (.raw v) := .mk fun F A s e _ f => by
  subst e
  refine Name_function_global f.kind (kindOf_of f hk (by decide)) (loadGlobal_global (mg := C.mg) ?_ hg ⟨.refl .., rfl⟩) hd
  rw [f.glob]; exact O.g.keeps f.wd.base
theorem Ev.bi (O : C.Ok) {x : Str} {v : Value} {p : Pos} (hg : C.mg x = none) (hb : bootBuiltins x = some v) (hk : nm.lookup x = some .globalImplicit) (hd : (x == ("__debug__" : Str)) = false) (hn : x ≠ "__name__") : Ev C n nm Γ (.Name x p) (.raw v) := .mk fun F A s e _ f => by
  subst e
  refine Name_function_global f.kind (kindOf_of f hk (by decide)) (loadGlobal_builtin (mg := C.mg) (mb := C.mb) ?_ hg ?_ ((O.bi x hn).trans hb) ⟨.refl .., rfl⟩) hd
  · rw [f.glob]; exact O.g.keeps f.wd.base
  · rw [f.blt]; exact O.b.keeps f.wd.base

/-! operators -/
theorem Ev.bin {l r : Expr} {op : Operator} {p : Pos} {a b d : D} (hl : Ev C (n + 1) nm Γ l a) (hr : Ev C (n + 1) nm Γ r b) (ho : Op2 C op a b d) : Ev C (n + 1) nm Γ (.BinOp l op r p) d := .mk fun F A s e a f => by
  refine wpAny_BinOp (bot_mono (hl.go F A s e a f) fun v s₁ ⟨y, x⟩ => bot_mono (hr.go F A s₁ e a (f.step y)) fun v₂ s₂ ⟨y₂, x₂⟩ => bot_mono (ho A s₂ F.own v v₂ (a.le (by omega)) (f.wd.stepN (y.trans y₂)) (x.stepN y₂) x₂) fun v₃ s₃ ⟨y₃, x₃⟩ => ⟨(y.trans y₂).trans y₃, x₃⟩)
theorem Ev.cmp {l r : Expr} {op : CmpOp} {p : Pos} {a b : D} {d : Bool} (hl : Ev C (n + 1) nm Γ l a) (hr : Ev C (n + 1) nm Γ r b) (ho : Cmp C op a b d) (hm : behindInMarks op r = false) : Ev C (n + 1) nm Γ (.Compare l [op] [r] p) (.bool d) := .mk fun F A s e a f => by
  refine wpAny_Compare1 (bot_mono (hl.go F A s e a f) fun v s₁ ⟨y, x⟩ => bot_mono (hr.go F A s₁ e a (f.step y)) fun v₂ s₂ ⟨y₂, x₂⟩ => bot_mono (ho A s₂ F.own v v₂ (a.le (by omega)) (f.wd.stepN (y.trans y₂)) (x.stepN y₂) x₂) fun v₃ s₃ ⟨y₃, x₃⟩ => ⟨(y.trans y₂).trans y₃, x₃⟩) hm
theorem Tst.cmp {l r : Expr} {op : CmpOp} {p : Pos} {a b : D} {d : Bool} (hl : Ev C (n + 1) nm Γ l a) (hr : Ev C (n + 1) nm Γ r b) (ho : Cmp C op a b d) (hm : behindInMarks op r = false) : Tst C (n + 1) nm Γ (.Compare l [op] [r] p) d := .mk fun F A s e a f => by
  refine wpAny_isTrue_Compare1 (bot_mono (hl.go F A s e a f) fun v s₁ ⟨y, x⟩ => bot_mono (hr.go F A s₁ e a (f.step y)) fun v₂ s₂ ⟨y₂, x₂⟩ => bot_mono (ho A s₂ F.own v v₂ (a.le (by omega)) (f.wd.stepN (y.trans y₂)) (x.stepN y₂) x₂) fun v₃ s₃ ⟨y₃, x₃⟩ => ?_) hm
  subst x₃
  exact wpAny_truthy_bool ⟨(y.trans y₂).trans y₃, rfl⟩
theorem Tst.val {e : Expr} {d : D} {b : Bool} (h : Ev C (n + 1) nm Γ e d) (t : Tru C d b) (he : ∀ env whole, isTrue e env whole = (do let v ← whole; standAt e.pos; holding [v] (truthy v))) : Tst C (n + 1) nm Γ e b := .mk fun F A s q a f => by
  refine wpAny_isTrue_value (bot_mono (h.go F A s q a f) fun v s₁ ⟨y, x⟩ => bot_mono (t A s₁ F.own v (a.le (by omega)) (f.wd.stepN y) x) fun r s₂ ⟨y₂, z⟩ => ⟨y.trans y₂, z⟩) (he _ _)
theorem Tst.not {e : Expr} {p : Pos} {b : Bool} (h : Tst C n nm Γ e b) : Tst C n nm Γ (.UnaryOp .Not e p) (!b) := .mk fun F A s q a f =>
  wpAny_isTrue_Not (bot_mono (h.go F A s q a f) fun r s₁ ⟨y, z⟩ => ⟨y, by rw [z]⟩)
theorem Tst.and_nil {p : Pos} : Tst C n nm Γ (.BoolOp .And [] p) true := .mk fun F A s q a f => wpAny_isTrue_BoolOp (wpAny_allTrue_And_nil ⟨.refl .., rfl⟩)
theorem Tst.and {e : Expr} {r : List Expr} {p : Pos} {b c : Bool} (h : Tst C n nm Γ e b) (k : b = true → Tst C n nm Γ (.BoolOp .And r p) c) : Tst C n nm Γ (.BoolOp .And (e :: r) p) (b && c) := .mk fun F A s q a f => by
  refine wpAny_isTrue_BoolOp (wpAny_allTrue_And_cons (bot_mono (h.go F A s q a f) fun r s₁ ⟨y, z⟩ => ?_))
  subst z
  cases r with
  | true => 
    refine bot_mono ((k rfl).go F A s₁ q a (f.step y)) fun r s₂ ⟨y₂, z₂⟩ => ⟨y.trans y₂, z₂⟩
  | false => exact ⟨y, rfl⟩
theorem Tst.or_nil {p : Pos} : Tst C n nm Γ (.BoolOp .Or [] p) false := .mk fun F A s q a f => wpAny_isTrue_BoolOp (wpAny_allTrue_Or_nil ⟨.refl .., rfl⟩)
theorem Tst.or {e : Expr} {r : List Expr} {p : Pos} {b c : Bool} (h : Tst C n nm Γ e b) (k : b = false → Tst C n nm Γ (.BoolOp .Or r p) c) : Tst C n nm Γ (.BoolOp .Or (e :: r) p) (b || c) := .mk fun F A s q a f => by
  refine wpAny_isTrue_BoolOp (wpAny_allTrue_Or_cons (bot_mono (h.go F A s q a f) fun r s₁ ⟨y, z⟩ => ?_))
  subst z
  cases r with
  | false => 
    refine bot_mono ((k rfl).go F A s₁ q a (f.step y)) fun r s₂ ⟨y₂, z₂⟩ => ⟨y.trans y₂, z₂⟩
  | true => exact ⟨y, rfl⟩
theorem Ev.ite {t x y : Expr} {p : Pos} {b : Bool} {d : D} (h : Tst C n nm Γ t b) (h1 : b = true → Ev C n nm Γ x d) (h2 : b = false → Ev C n nm Γ y d) : Ev C n nm Γ (.IfExp t x y p) d := .mk fun F A s q a f => by
  refine wpAny_IfExp (bot_mono (h.go F A s q a f) fun r s₁ ⟨y, z⟩ => ?_)
  subst z
  cases r with
  | true => exact bot_mono ((h1 rfl).go F A s₁ q a (f.step y)) fun v s₂ ⟨y₂, x₂⟩ => ⟨y.trans y₂, x₂⟩
  | false => exact bot_mono ((h2 rfl).go F A s₁ q a (f.step y)) fun v s₂ ⟨y₂, x₂⟩ => ⟨y.trans y₂, x₂⟩
theorem Ev.ite_int {t x y : Expr} {p : Pos} {b : Bool} {i j : Int} (h : Tst C n nm Γ t b) (h1 : b = true → Ev C n nm Γ x (.int i)) (h2 : b = false → Ev C n nm Γ y (.int j)) : Ev C n nm Γ (.IfExp t x y p) (.int (bif b then i else j)) :=
  Ev.ite h (fun e => by subst e; exact h1 rfl) (fun e => by subst e; exact h2 rfl)
theorem Ev.ite_flt {t x y : Expr} {p : Pos} {b : Bool} {i j : UInt64} (h : Tst C n nm Γ t b) (h1 : b = true → Ev C n nm Γ x (.flt i)) (h2 : b = false → Ev C n nm Γ y (.flt j)) : Ev C n nm Γ (.IfExp t x y p) (.flt (bif b then i else j)) :=
  Ev.ite h (fun e => by subst e; exact h1 rfl) (fun e => by subst e; exact h2 rfl)
theorem Ev.ite_str {t x y : Expr} {p : Pos} {b : Bool} {i j : Str} (h : Tst C n nm Γ t b) (h1 : b = true → Ev C n nm Γ x (.str i)) (h2 : b = false → Ev C n nm Γ y (.str j)) : Ev C n nm Γ (.IfExp t x y p) (.str (bif b then i else j)) :=
  Ev.ite h (fun e => by subst e; exact h1 rfl) (fun e => by subst e; exact h2 rfl)

/-! truth -/
theorem Tru.bool {b : Bool} : Tru C (.bool b) b := fun A s own v _ _ x => by cases x; exact wpAny_truthy_bool ⟨.refl .., rfl⟩

/-! and, or as values, two or three bools -/
theorem Ev.and2 {x y : Expr} {p : Pos} {b c : Bool} (h : Ev C n nm Γ x (.bool b)) (k : b = true → Ev C n nm Γ y (.bool c)) : Ev C n nm Γ (.BoolOp .And [x, y] p) (.bool (b && c)) := .mk fun F A s q a f => by
  refine wpAny_And2 (bot_mono (h.go F A s q a f) fun v s₁ ⟨y, z⟩ => ?_)
  cases z
  refine wpAny_truthy_bool ?_
  cases b with
  | true => exact bot_mono ((k rfl).go F A s₁ q a (f.step y)) fun v s₂ ⟨y₂, x₂⟩ => ⟨y.trans y₂, x₂⟩
  | false => exact ⟨y, rfl⟩
theorem Ev.and3 {x y z : Expr} {p : Pos} {b c d : Bool} (h : Ev C n nm Γ x (.bool b)) (k : b = true → Ev C n nm Γ y (.bool c)) (l : b = true → c = true → Ev C n nm Γ z (.bool d)) : Ev C n nm Γ (.BoolOp .And [x, y, z] p) (.bool (b && (c && d))) := .mk fun F A s q a f => by
  show wpAny _ _ (do
    let v ← eval x F.env
    standAt p
    let t ← holding [v] (truthy v)
    match BoolOp.And, t with
    | .And, false | .Or, true => pure v
    | _, _ => eval (.BoolOp .And [y, z] p) F.env) _ _ s
  refine wpAny_bind (bot_mono (h.go F A s q a f) fun v s₁ ⟨y, w⟩ => ?_)
  cases w
  refine wpAny_bind (wpAny_standAt (wpAny_bind (wpAny_holding (wpAny_truthy_bool ?_))))
  cases b with
  | true => exact bot_mono ((Ev.and2 (p := p) (k rfl) (l rfl)).go F A s₁ q a (f.step y)) fun v s₂ ⟨y₂, x₂⟩ => ⟨y.trans y₂, x₂⟩
  | false => exact wpAny_pure ⟨y, rfl⟩

/-! displays -/
theorem Evs.nil : Evs C n nm Γ [] [] := .mk fun F A s pos q a f => wpAny_items_nil ⟨.refl .., rfl⟩
theorem Evs.cons {e : Expr} {es : List Expr} {d : D} {ds : List D} (h : Ev C n nm Γ e d) (k : Evs C n nm Γ es ds) (he : ∀ env, starEach (e :: es) env = (false, eval e env) :: starEach es env) : Evs C n nm Γ (e :: es) (d :: ds) := .mk fun F A s pos q a f =>
  wpAny_items_cons (bot_mono (h.go F A s q a f) fun v s₁ ⟨y, x⟩ => bot_mono (k.go F A s₁ pos q a (f.step y)) fun vs s₂ ⟨y₂, x₂⟩ => ⟨y.trans y₂, .cons (x.stepN y₂) x₂⟩) (he _)
theorem Ev.tup {es : List Expr} {k : Nat} {p : Pos} {ds : List D} (h : Evs C n nm Γ es ds) (z : ds.length ≤ sizeLine) : Ev C n nm Γ (.Tuple es k p) (.tup ds) := .mk fun F A s q a f => by
  refine wpAny_Tuple (bot_mono (h.go F A s _ q a f) fun vs s₁ ⟨y, x⟩ => ⟨by rw [x.length]; exact z, y.trans .push, _, vs, rfl, (f.wd.stepN y).new, ⟨0, Heap.get?_push_size _ rfl⟩, x.stepN (.push (t := s₁.toks))⟩)
theorem Ev.lst {es : List Expr} {p : Pos} {ds : List D} (h : Evs C n nm Γ es ds) (z : ds.length ≤ sizeLine) : Ev C n nm Γ (.List es p) (.lst ds) := .mk fun F A s q a f => by
  refine wpAny_List (bot_mono (h.go F A s _ q a f) fun vs s₁ ⟨y, x⟩ => ⟨by rw [x.length]; exact z, y.trans .push, _, vs, rfl, (f.wd.stepN y).new, ⟨0, Heap.get?_push_size _ rfl⟩, x.stepN (.push (t := s₁.toks))⟩)
end Mine
namespace Mine
open PySem PySem.Calls PyProof.Rows PySem.W
variable {C : Cx} {n : Nat} {nm : Names} {Γ : Gam}

theorem own_places {F : Fr1} {s : Shared} (f : Fm C F Γ s) : ∀ b, b = F.env.locals ∨ F.cellAt b → F.own b := by
  rintro b (rfl | ⟨x, hx, e⟩)
  · exact f.mto _ f.mtl
  · obtain ⟨c, o, vv, h1, h2, _⟩ := f.cel x hx
    rw [h1] at e; cases e; exact h2

theorem lk_cons {Γ : Gam} {x y : Str} {d e : D} (h : List.lookup y ((x, d) :: Γ) = some e) : (y = x ∧ e = d) ∨ (y ≠ x ∧ List.lookup y Γ = some e) := by
  rw [List.lookup_cons] at h
  cases q : y == x with
  | true => rw [q] at h; cases h; exact .inl ⟨beq_iff_eq.mp q, rfl⟩
  | false => rw [q] at h; exact .inr ⟨fun z => by rw [z] at q; simp at q, h⟩

theorem store_ok {F : Fr1} {A : Around} {s : Shared} {x : Str} {d : D} {v : Value} {I : Box} {E : Value → Shared → Prop} (f : Fm C F Γ s) (hk : F.nm.lookup x = some .local ∨ F.nm.lookup x = some .cell) (hv : Rep s.heap F.own d v) (hI : I.I F s.heap) :
    wpAny (model C.prog C.w) A (storeName F.env x v) (fun _ s' => Step F.mt s s' ∧ Fm C F ((x, d) :: Γ) s' ∧ I.I F s'.heap) E s := by
  have hown := own_places f
  rcases hk with hk | hk
  · obtain ⟨m, hn, hm⟩ := f.ns
    refine wpAny_storeName_local (kindOf_of f hk (by decide)) hn (fun h' hn' hs => ?_) (by rw [f.kind]; rfl)
    have kp : ∀ b o, b ≠ F.env.locals → s.heap.get? b = some o → h'.get? b = some o := fun b o n e => (hs.2 b n).trans e
    have st : Step F.mt s { s with heap := h', toks := s.toks + 1 } := .heap (fun b o n e => kp b o (fun q => n (q ▸ f.mtl)) e) fun b o e => by
      by_cases q : b = F.env.locals
      · subst q; obtain ⟨o', _, _, z, _⟩ := hn'; exact ⟨o', z⟩
      · exact ⟨o, kp b o q e⟩
    have rp : ∀ {d v}, Rep s.heap F.own d v → Rep h' F.own d v := fun z => z.step st f.mto
    refine ⟨st, { f with wd := f.wd.step st f.mto, ns := ⟨_, hn', fun y e q r => ?_⟩, cel := fun y hy => ?_ }, I.st F _ _ (fun b o n _ e => kp b o (fun q => n (.inl q)) e) hown hI⟩
    · rcases lk_cons q with ⟨rfl, rfl⟩ | ⟨ne, q⟩
      · exact ⟨v, by simp, rp hv⟩
      · obtain ⟨w, h1, h2⟩ := hm y e q r
        exact ⟨w, by simp [ne, h1], rp h2⟩
    · obtain ⟨c, o, vv, h1, h2, h3, h4, h5, h6, h7, h8, h9⟩ := f.cel y hy
      refine ⟨c, o, vv, h1, h2, h3, kp _ _ h3 h4, h5, h6, h7, h8, fun e q => ?_⟩
      rcases lk_cons q with ⟨rfl, rfl⟩ | ⟨ne, q⟩
      · rw [hk] at hy; rcases hy with hy | hy <;> cases hy
      · obtain ⟨w, e1, e2⟩ := h9 e q
        exact ⟨w, e1, rp e2⟩
  · obtain ⟨c, o, vv, h1, h2, h3, h4, h5, h6, h7, h8, h9⟩ := f.cel x (.inl hk)
    have hmt : F.mt c := f.mtc x c hk h1
    have hco : cellOf F.env x = pure c := by unfold cellOf; rw [h1]
    have e1 : storeName F.env x v = (do cellSet (← cellOf F.env x) (some v)) := by
      unfold storeName Env.blockKind
      rw [kindOf_of f hk (by decide), f.kind]
      rfl
    rw [e1, hco]
    refine wpAny_bind (wpAny_pure ?_)
    unfold cellSet
    refine wpAny_bind (wpAny_load h4 ?_)
    rw [h8]
    let g : Obj → Obj := fun o => { o with data := .cell (some v) }
    refine wpAny_update h4 ?_
    have hs : Heap.SameBut c s.heap (s.heap.update c g) := Heap.SameBut.update ..
    have kp : ∀ b o, b ≠ c → s.heap.get? b = some o → (s.heap.update c g).get? b = some o := fun b o n e => (hs.2 b n).trans e
    have gc : (s.heap.update c g).get? c = some (g o) := Heap.get?_update_self _ h4 rfl
    have st : Step F.mt s { s with heap := s.heap.update c g } := .heap (fun b o n e => kp b o (fun q => n (q ▸ hmt)) e) fun b o e => by
      by_cases q : b = c
      · subst q; exact ⟨_, gc⟩
      · exact ⟨o, kp b o q e⟩
    have rp : ∀ {d v}, Rep s.heap F.own d v → Rep (s.heap.update c g) F.own d v := fun z => z.step st f.mto
    refine ⟨st, { f with wd := f.wd.step st f.mto, ns := ?_, cel := fun y hy => ?_ }, I.st F _ _ (fun b o n _ e => kp b o (fun q => n (.inr ⟨x, .inl hk, q ▸ h1⟩)) e) hown hI⟩
    · obtain ⟨m, hn, hm⟩ := f.ns
      obtain ⟨o', es, ep, ho', r⟩ := hn
      refine ⟨m, ⟨o', es, ep, kp _ _ (Ne.symm h3) ho', r⟩, fun y e q r => ?_⟩
      rcases lk_cons q with ⟨rfl, rfl⟩ | ⟨ne, q⟩
      · rw [hk] at r; cases r
      · obtain ⟨w, e1, e2⟩ := hm y e q r
        exact ⟨w, e1, rp e2⟩
    · obtain ⟨c', o', vv', k1, k2, k3, k4, k5, k6, k7, k8, k9⟩ := f.cel y hy
      by_cases hxy : y = x
      · subst hxy
        rw [h1] at k1; cases k1
        refine ⟨c, g o, some v, h1, h2, h3, gc, h5, h6, h7, rfl, fun e q => ?_⟩
        rcases lk_cons q with ⟨_, rfl⟩ | ⟨ne, q⟩
        · exact ⟨v, rfl, rp hv⟩
        · exact absurd rfl ne
      · refine ⟨c', o', vv', k1, k2, k3, kp _ _ (fun q => hxy (f.inj y x c hy (.inl hk) (q ▸ k1) h1)) k4, k5, k6, k7, k8, fun e q => ?_⟩
        rcases lk_cons q with ⟨rfl, _⟩ | ⟨ne, q⟩
        · exact absurd rfl hxy
        · obtain ⟨w, e1, e2⟩ := k9 e q
          exact ⟨w, e1, rp e2⟩

/-! statements -/
theorem Ex.nil {I : Box} {P : Out → Prop} (h : P (.nxt Γ I)) : Ex C n nm Γ I [] P := .mk fun F A s q a f i => wpAny_execs_nil ⟨.refl .., _, h, f, i⟩
theorem Ex.mono {I : Box} {ss : List Stmt} {P Q : Out → Prop} (h : Ex C n nm Γ I ss P) (k : ∀ o, P o → Q o) : Ex C n nm Γ I ss Q := .mk fun F A s q a f i => bot_mono (h.go F A s q a f i) fun fl s₁ ⟨y, o, ho, hf⟩ => ⟨y, o, k o ho, hf⟩
theorem execs_append (a b : List Stmt) (env : Env) : execs (a ++ b) env = (do match ← execs a env with | .next => execs b env | f => pure f) := by
  induction a with
  | nil => rfl
  | cons s a ih =>
    show execs (s :: (a ++ b)) env = _
    rw [execs_cons, execs_cons, bind_assoc]
    congr 1
    funext f
    cases f with
    | next => exact ih
    | _ => rfl
theorem execs_If (t : Expr) (a b r : List Stmt) (p : Pos) (env : Env) : execs (.If t a b p :: r) env = (do standAt p; if ← isTrue t env (eval t env) then execs (a ++ r) env else execs (b ++ r) env) := by
  rw [execs_cons, exec_If, bind_assoc]
  congr 1
  funext _
  rw [bind_assoc]
  congr 1
  funext c
  cases c
  · simp only [Bool.false_eq_true, if_false]; rw [execs_append]; congr 1
  · simp only [if_true]; rw [execs_append]; congr 1
theorem Ex.ite {I : Box} {t : Expr} {a b r : List Stmt} {p : Pos} {c : Bool} {P : Out → Prop} (h : Tst C n nm Γ t c) (h1 : c = true → Ex C n nm Γ I (a ++ r) P) (h2 : c = false → Ex C n nm Γ I (b ++ r) P) :
    Ex C n nm Γ I (.If t a b p :: r) P := .mk fun F A s q ak f i => by
  rw [execs_If]
  refine wpAny_bind (wpAny_standAt (wpAny_bind (bot_mono (h.go F A s q ak f) fun v s₁ ⟨y, e⟩ => ?_)))
  subst e
  have hI : I.I F s₁.heap := I.st F _ _ (fun b o _ _ e => y.all b o e) (own_places f) i
  cases v with
  | true => exact bot_mono ((h1 rfl).go F A s₁ q ak (f.step y) hI) fun fl s₂ ⟨y₂, w⟩ => ⟨y.non.trans y₂, w⟩
  | false => exact bot_mono ((h2 rfl).go F A s₁ q ak (f.step y) hI) fun fl s₂ ⟨y₂, w⟩ => ⟨y.non.trans y₂, w⟩
theorem Ex.ret {I : Box} {e : Expr} {p : Pos} {r : List Stmt} {d : D} {P : Out → Prop} (h : Ev C n nm Γ e d) (k : P (.ret d)) : Ex C n nm Γ I (.Return (some e) p :: r) P := .mk fun F A s q a f i => by
  refine wpAny_execs_cons (wpAny_Return_some (bot_mono (h.go F A s q a f) fun v s₁ ⟨y, x⟩ => ⟨y.non, _, k, x.weak f.reto⟩))
/-- a plain assignment -/
theorem Ex.asg {I : Box} {x : Str} {p p' : Pos} {e : Expr} {r : List Stmt} {d : D} {P : Out → Prop} (h : Ev C n nm Γ e d) (hk : nm.lookup x = some .local ∨ nm.lookup x = some .cell)
    (k : Ex C n nm ((x, d) :: Γ) I r P) (hs : ∀ env : Env, env.scope.kind = .function → env.kindOf x = nm.lookup x → swapsWith e (some (.Name x p')) p.line env = pure false) : Ex C n nm Γ I (.Assign [.Name x p'] e p :: r) P := .mk fun F A s q a f i => by
  refine wpAny_execs_cons (wpAny_Assign_Name (bot_mono (h.go F A s q a f) fun v s₁ ⟨y, z⟩ => ?_) (hs _ f.kind (by subst q; rcases hk with e | e <;> rw [e, kindOf_of f e (by decide)])))
  have hI : I.I F s₁.heap := I.st F _ _ (fun b o _ _ e => y.all b o e) (own_places f) i
  refine wpAny_mono (store_ok (E := Bot) (f.step y) (q ▸ hk) z hI) (fun _ s₂ ⟨y₂, f₂, i₂⟩ => ?_) fun _ _ x => x
  exact bot_mono (k.go F A s₂ q a f₂ i₂) fun fl s₃ ⟨y₃, w⟩ => ⟨(y.non.trans y₂).trans y₃, w⟩
theorem Ex.aug {I : Box} {x : Str} {p p' : Pos} {op : Operator} {e : Expr} {r : List Stmt} {d₀ d₁ d : D} {P : Out → Prop} (hg : Γ.lookup x = some d₀) (hk : nm.lookup x = some .local) (h : Ev C (n + 1) nm Γ e d₁) (ho : Iop C op d₀ d₁ d)
    (k : Ex C (n + 1) nm ((x, d) :: Γ) I r P) : Ex C (n + 1) nm Γ I (.AugAssign (.Name x p') op e p :: r) P := .mk fun F A s q a f i => by
  have h0 : wpAny (model C.prog C.w) A (loadName F.env x) (fun v s' => Step No s s' ∧ Rep s'.heap F.own d₀ v) Bot s := by
    subst q
    obtain ⟨m, hn, hm⟩ := f.ns
    obtain ⟨v, h1, h2⟩ := hm x d₀ hg hk
    exact wpAny_loadName_local f.kind (kindOf_of f hk (by decide)) hn h1 ⟨.refl .., h2⟩
  refine wpAny_execs_cons (wpAny_AugAssign_Name (bot_mono h0 fun v₀ s₀ ⟨y₀, z₀⟩ => bot_mono (h.go F A s₀ q a (f.step y₀)) fun v s₁ ⟨y, z⟩ => bot_mono (ho A s₁ F.own v₀ v (a.le (by omega)) (f.wd.stepN (y₀.trans y)) (z₀.stepN y) z) fun w s₂ ⟨y₂, z₂⟩ => ?_))
  have hI : I.I F s₂.heap := I.st F _ _ (fun b o _ _ e => ((y₀.trans y).trans y₂).all b o e) (own_places f) i
  refine wpAny_mono (store_ok (E := Bot) (f.step ((y₀.trans y).trans y₂)) (q ▸ .inl hk) z₂ hI) (fun _ s₃ ⟨y₃, f₃, i₃⟩ => ?_) fun _ _ x => x
  exact bot_mono (k.go F A s₃ q a f₃ i₃) fun fl s₄ ⟨y₄, w⟩ => ⟨((((y₀.trans y).trans y₂)).non.trans y₃).trans y₄, w⟩
end Mine
namespace Mine
open PySem PySem.Calls PyProof.Rows PySem.W
variable {C : Cx} {n : Nat} {nm : Names} {Γ : Gam}

/-! targets -/
structure Asn (C : Cx) (nm : Names) (t : Expr) (d : D) (Γ Γ' : Gam) : Prop where
  go : ∀ (F : Fr1) A s v (I : Box), F.nm = nm → Aok 1 A → Fm C F Γ s → Rep s.heap F.own d v → I.I F s.heap →
  wpAny (model C.prog C.w) A (assign t F.env v) (fun _ s' => Step F.mt s s' ∧ Fm C F Γ' s' ∧ I.I F s'.heap) Bot s
structure Asns (C : Cx) (nm : Names) (ts : List Expr) (ds : List D) (Γ Γ' : Gam) : Prop where
  len : ∀ env, (assignEach ts env).length = ds.length
  star : ∀ env, (assignEach ts env).findIdx? (·.1) = none
  go : ∀ (F : Fr1) A s vs (I : Box), F.nm = nm → Aok 1 A → Fm C F Γ s → Reps s.heap F.own ds vs → I.I F s.heap →
    wpAny (model C.prog C.w) A (assignInOrder ((assignEach ts F.env).map (·.2)) vs) (fun _ s' => Step F.mt s s' ∧ Fm C F Γ' s' ∧ I.I F s'.heap) Bot s
theorem Asn.name {x : Str} {p : Pos} {d : D} (hk : nm.lookup x = some .local ∨ nm.lookup x = some .cell) : Asn C nm (.Name x p) d Γ ((x, d) :: Γ) := .mk fun F A s v I q a f z i =>
  wpAny_assign_Name (store_ok f (q ▸ hk) z i)
theorem Asns.nil : Asns C nm [] [] Γ Γ := ⟨fun _ => rfl, fun _ => rfl, fun F A s vs I q a f z i => by cases z; exact wpAny_pure ⟨.refl .., f, i⟩⟩
theorem Asns.cons {t : Expr} {ts : List Expr} {d : D} {ds : List D} {Γ' Γ'' : Gam} (h : Asn C nm t d Γ Γ') (k : Asns C nm ts ds Γ' Γ'') (he : ∀ env, assignEach (t :: ts) env = (false, assign t env) :: assignEach ts env) : Asns C nm (t :: ts) (d :: ds) Γ Γ'' := by
  refine ⟨fun env => by rw [he, List.length_cons, k.len, List.length_cons], fun env => by rw [he, List.findIdx?_cons]; simp [k.star env], fun F A s vs I q a f z i => ?_⟩
  obtain ⟨v, r, rfl, z1, z2⟩ := z
  rw [he]
  show wpAny _ _ (do holding r (assign t F.env v); assignInOrder ((assignEach ts F.env).map (·.2)) r) _ _ s
  refine wpAny_bind (wpAny_holding (bot_mono (h.go F A s v I q a f z1 i) fun _ s₁ ⟨y, f₁, i₁⟩ => ?_))
  exact bot_mono (k.go F A s₁ r I q a f₁ (z2.step y f.mto) i₁) fun _ s₂ ⟨y₂, w⟩ => ⟨y.trans y₂, w⟩
theorem Asn.tup {ts : List Expr} {k : Nat} {p : Pos} {ds : List D} {Γ' : Gam} (h : Asns C nm ts ds Γ Γ') : Asn C nm (.Tuple ts k p) (.tup ds) Γ Γ' := .mk fun F A s v I q a f z i => by
  obtain ⟨t, vs, rfl, no, hp, hr⟩ := z
  refine wpAny_assign_Tuple a.handled hp.is (by rw [h.len, List.size_toArray, hr.length]) (h.star _) fun h' he => ?_
  have y : Step No s { s with heap := h' } := .ext fun b o e => he b o (Nat.ne_of_lt (Heap.lt_size e)) e
  have i' : I.I F h' := I.st F _ _ (fun b o _ _ e => y.all b o e) (own_places f) i
  exact bot_mono (h.go F A { s with heap := h' } vs I q a (f.step y) (hr.stepN y) i') fun _ s₂ ⟨y₂, w⟩ => ⟨y.non.trans y₂, w⟩
theorem Ex.tasg {I : Box} {ts : List Expr} {k : Nat} {p p' : Pos} {e : Expr} {r : List Stmt} {ds : List D} {Γ' : Gam} {P : Out → Prop} (h : Ev C (n + 1) nm Γ e (.tup ds)) (g : Asns C nm ts ds Γ Γ')
    (kk : Ex C (n + 1) nm Γ' I r P) (hs : ∀ env, swapsWithSole [.Tuple ts k p'] e p.line env = pure false) (hw : ∀ env, swappedStores [.Tuple ts k p'] e env = pure none) : Ex C (n + 1) nm Γ I (.Assign [.Tuple ts k p'] e p :: r) P := .mk fun F A s q a f i => by
  refine wpAny_execs_cons (PyProof.Rows.Assign_Tuple (bot_mono (h.go F A s q a f) fun v s₁ ⟨y, z⟩ => ?_) (hs _) (hw _))
  have hI : I.I F s₁.heap := I.st F _ _ (fun b o _ _ e => y.all b o e) (own_places f) i
  refine bot_mono ((Asn.tup (k := k) (p := p') g).go F A s₁ v I q (a.le (by omega)) (f.step y) z hI) fun _ s₂ ⟨y₂, f₂, i₂⟩ => ?_
  exact bot_mono (kk.go F A s₂ q a f₂ i₂) fun fl s₃ ⟨y₃, w⟩ => ⟨(y.non.trans y₂).trans y₃, w⟩

/-! iterators -/
structure IsIt (C : Cx) (n : Nat) (a : Addr) (Z : Own) (gs : Nat → Prop) (W : Own → List D → Shared → Prop) : Prop where
  ext : ∀ own own' l s, W own l s → (∀ b, own' b → own b ∨ s.heap.get? b = none) → W own' l s
  st : ∀ own l s s' mt, W own l s → Step mt s s' → (∀ b, mt b → own b) → W own l s'
  self : ∀ own l A s, W own l s → wpAny (model C.prog C.w) A (pyIter (.ref a)) (fun r s' => r = .ref a ∧ s' = s) Bot s
  letgo : ∀ own l A s t v, W own l s → wpAny (model C.prog C.w) A (letOwnedTupleGo t (.ref a) v) (fun _ s' => s' = s) Bot s
  next : ∀ own d l A s, Aok 1 A → Aok n A → Wd C own s → W own (d :: l) s → wpAny (model C.prog C.w) A (pyNext (.ref a)) (fun r s' => ∃ v, r = some v ∧ StepI own Z gs s s' ∧ Rep s'.heap own d v ∧ W own l s') Bot s
  done : ∀ own A s, Aok 1 A → Aok n A → Wd C own s → W own [] s → wpAny (model C.prog C.w) A (pyNext (.ref a)) (fun r s' => r = none ∧ StepI own Z gs s s') Bot s
structure Got (C : Cx) (n : Nat) (own : Own) (items : List D) (s : Shared) (it : Value) (s' : Shared) (a : Addr) (Z : Own) (gs : Nat → Prop) (W : Own → List D → Shared → Prop) : Prop where
  step : Step No s s'
  eq : it = .ref a
  new : ∀ b, Z b → s.heap.get? b = none
  gens : ∀ i, gs i → s.gens[i]? = none
  isit : IsIt C n a Z gs W
  w : W own items s'
/-- an expression that is iterated over -/
structure ItE (C : Cx) (n : Nat) (nm : Names) (Γ : Gam) (e : Expr) (items : List D) : Prop where
  go : ∀ (F : Fr1) A s, F.nm = nm → Aok n A → Fm C F Γ s →
  wpAny (model C.prog C.w) A (eval e F.env) (fun x s₁ => wpAny (model C.prog C.w) A (pyIter x) (fun it s₂ => ∃ a Z gs W, Got C n F.own items s it s₂ a Z gs W) Bot s₁) Bot s
theorem base_none {C : Cx} {own : Own} {s : Shared} (w : Wd C own s) {b : Addr} (h : s.heap.get? b = none) : C.h₀.get? b = none := by
  cases e : C.h₀.get? b with
  | none => rfl
  | some o => have := w.base b o e; rw [h] at this; cases this

/-- the for loop -/
theorem for_loop {F : Fr1} {A : Around} {a : Addr} {Z : Own} {gs : Nat → Prop} {W : Own → List D → Shared → Prop} {t : Expr} {body : List Stmt} {P : Out → Prop} (J : List D → Gam → Box → Prop) (it : IsIt C (n + 1) a Z gs W) (q : F.nm = nm) (ak : Aok (n + 1) A)
    (hb : ∀ b, Z b → C.h₀.get? b = none)
    (turn : ∀ d l Γ I, J (d :: l) Γ I → ∃ Γ₁, Asn C nm t d Γ Γ₁ ∧ Ex C (n + 1) nm Γ₁ I body (fun o => match o with | .nxt Γ₂ I₂ => ∃ Γ', J l Γ' I₂ ∧ Sub Γ' Γ₂ | .ret d => P (.ret d))) :
    ∀ (l : List D) (Γ : Gam) (I : Box) (s : Shared), J l Γ I → Fm C F Γ s → I.I F s.heap → W F.own l s →
      codeAny (model C.prog C.w) A (.forLoop t (.ref a) body [] F.env) (fun r s' => StepG F.mt Z gs s s' ∧ ((∃ Γ' I', r = .ok .next ∧ J [] Γ' I' ∧ Fm C F Γ' s' ∧ I'.I F s'.heap) ∨ ∃ v d, r = .ok (.ret v) ∧ P (.ret d) ∧ Rep s'.heap F.ret d v)) s := by
  intro l Γ I s hj f i hw
  refine codeAny_forLoop_any (fun k s' => ∃ l Γ I, l.length = k ∧ J l Γ I ∧ Fm C F Γ s' ∧ I.I F s'.heap ∧ W F.own l s' ∧ StepG F.mt Z gs s s') ?_ l.length ⟨l, Γ, I, rfl, hj, f, i, hw, .refl⟩
  rintro k s₁ ⟨l, Γ, I, rfl, hj, f, i, hw, st⟩
  cases l with
  | nil =>
    refine bot_mono (it.done F.own A s₁ (ak.le (by omega)) ak f.wd hw) fun r s₂ ⟨e, y⟩ => ?_
    subst e
    refine wpAny_execs_nil ⟨st.trans (y.g), .inl ⟨Γ, I, rfl, hj, f.stepI y hb, I.st F _ _ (fun b o _ q e => y.seq b o q e) (own_places f) i⟩⟩
  | cons d l =>
    refine bot_mono (it.next F.own d l A s₁ (ak.le (by omega)) ak f.wd hw) fun r s₂ ⟨v, e, y, hv, hw₂⟩ => ?_
    subst e
    refine bot_mono (it.letgo F.own l A s₂ t v hw₂) fun _ s₃ e => ?_
    subst e
    obtain ⟨Γ₁, ha, hx⟩ := turn d l Γ I hj
    have f₂ := f.stepI y hb
    have i₂ : I.I F s₃.heap := I.st F _ _ (fun b o _ q e => y.seq b o q e) (own_places f) i
    refine bot_mono (ha.go F A s₃ v I q (ak.le (by omega)) f₂ hv i₂) fun _ s₄ ⟨y₄, f₄, i₄⟩ => ?_
    have st₄ : StepG F.mt Z gs s s₄ := (st.trans (y.g)).trans (y₄.g fun _ e => e)
    refine bot_mono (hx.go F A s₄ q ak f₄ i₄) fun fl s₅ ⟨y₅, o, ho, hf⟩ => ?_
    have st₅ : StepG F.mt Z gs s s₅ := st₄.trans (y₅.g fun _ e => e)
    cases o with
    | nxt Γ₂ I₂ =>
      obtain ⟨Γ', hj', hs⟩ := ho
      cases fl with
      | next => exact ⟨l.length, Nat.lt_succ_self _, l, Γ', I₂, rfl, hj', hf.1.sub hs, hf.2, it.st F.own l _ _ F.mt (it.st F.own l _ _ F.mt hw₂ y₄ f.mto) y₅ f.mto, st₅⟩
      | _ => exact hf.elim
    | ret d =>
      cases fl with
      | ret v => exact ⟨st₅, .inr ⟨v, d, rfl, ho, hf⟩⟩
      | _ => exact hf.elim

theorem Ex.for_ {I : Box} {t e : Expr} {body r : List Stmt} {p : Pos} {items : List D} {P : Out → Prop} (J : List D → Gam → Box → Prop) (h : ItE C (n + 1) nm Γ e items) (j : J items Γ I)
    (turn : ∀ d l Γ I, J (d :: l) Γ I → ∃ Γ₁, Asn C nm t d Γ Γ₁ ∧ Ex C (n + 1) nm Γ₁ I body (fun o => match o with | .nxt Γ₂ I₂ => ∃ Γ', J l Γ' I₂ ∧ Sub Γ' Γ₂ | .ret d => P (.ret d)))
    (k : ∀ Γ' I', J [] Γ' I' → Ex C (n + 1) nm Γ' I' r P) (hs : ∀ env x, foldedSetIterable e env x = pure x) : Ex C (n + 1) nm Γ I (.For t e body [] p :: r) P := .mk fun F A s q a f i => by
  refine wpAny_execs_cons (wpAny_For (bot_mono (h.go F A s q a f) fun x s₁ hx => bot_mono hx fun it s₂ ⟨b, Z, gs, W, g⟩ => ?_) (hs _))
  rw [g.eq]
  have hb : ∀ c, Z c → C.h₀.get? c = none := fun c hc => base_none f.wd (g.new c hc)
  refine codeAny_mono (for_loop J g.isit q a hb turn items Γ I s₂ j (f.step g.step) (I.st F _ _ (fun b o _ _ e => g.step.all b o e) (own_places f) i) g.w) fun r s₃ ⟨st, h3⟩ => ?_
  have st' : Step F.mt s s₃ := st.drop g.step.non (fun b o nb e q => nb q) g.new g.gens
  rcases h3 with ⟨Γ', I', rfl, hj, f₃, i₃⟩ | ⟨v, d, rfl, hp, hr⟩
  · exact bot_mono ((k Γ' I' hj).go F A s₃ q a f₃ i₃) fun fl s₄ ⟨y, w⟩ => ⟨st'.trans y, w⟩
  · exact ⟨st', _, hp, hr⟩
end Mine
namespace Mine
open PySem PySem.Calls PyProof.Rows PySem.W
variable {C : Cx} {n : Nat} {nm : Names} {Γ : Gam}

theorem append_ok {prog : Program} {w : World} {A : Around} {E : Value → Shared → Prop} {s : Shared} {l : Addr} {vs : List Value} {x : Value} {Q : Value → Shared → Prop} (hl : PLst s.heap l vs) (hsz : vs.length ≤ sizeLine)
    (hQ : ∀ h', PLst h' l (vs ++ [x]) → Heap.SameBut l s.heap h' → Q .none { s with heap := h' }) :
    wpAny (model prog w) A (call (.builtin "list.append") [.ref l, x]) Q E s := by
  obtain ⟨m, ho⟩ := id hl
  refine wpAny_call_entry slot_list_append hl.is.typeIs entry_list_append ?_ (args_list_append _ _)
  show wpAny _ _ (updateSeq l (·.push x) >>= fun _ => ret .none) _ _ s
  refine wpAny_bind ?_
  refine wpAny_updateSeq ho rfl (wpAny_pure ⟨.none, rfl, hQ _ ?_ (Heap.SameBut.update ..)⟩) (by simpa using hsz)
  have e : ∃ k, Obj.mapSeq (·.push x) { cls := .type "list", data := .seq vs.toArray m } = { cls := .type "list", data := .seq (vs ++ [x]).toArray k } := by
    refine ⟨m + 1, ?_⟩
    simp [Obj.mapSeq]
  obtain ⟨k, e⟩ := e
  exact ⟨k, by rw [← e]; exact Heap.get?_update_self _ ho rfl⟩

noncomputable abbrev testsOf (ifs : List Expr) (env : Env) : Sem Bool := forIn ifs true fun c r => if r = true then do let ok ← isTrue c env (eval c env); pure (ForInStep.yield ok) else pure (ForInStep.yield r)
/-- what stands behind the tests of a turn -/
noncomputable def Tl (C : Cx) (n : Nat) (nm : Names) (tail : Env → Value → Sem Unit) (Γ : Gam) (out : List D) : Prop := ∀ (F : Fr1) A s acc pre vs, F.nm = nm → Aok n A → Fm C F Γ s → F.own acc → F.mt acc → PLst s.heap acc vs → Reps s.heap F.own pre vs → pre.length + out.length ≤ sizeLine →
  wpAny (model C.prog C.w) A (tail F.env (.ref acc)) (fun _ s' => Step F.mt s s' ∧ Fm C F Γ s' ∧ ∃ vs', PLst s'.heap acc vs' ∧ Reps s'.heap F.own (pre ++ out) vs') Bot s
noncomputable def Tests (C : Cx) (n : Nat) (nm : Names) (Γ : Gam) (ifs : List Expr) (b : Bool) : Prop := ∀ (F : Fr1) A s, F.nm = nm → Aok n A → Fm C F Γ s →
  wpAny (model C.prog C.w) A (testsOf ifs F.env) (fun r s' => Step No s s' ∧ r = b) Bot s
theorem Tests.nil : Tests C n nm Γ [] true := fun F A s q a f => wpAny_tests_nil ⟨.refl .., rfl⟩
theorem Tests.one {e : Expr} {b : Bool} (h : Tst C n nm Γ e b) : Tests C n nm Γ [e] b := fun F A s q a f => wpAny_tests_one (h.go F A s q a f)
noncomputable abbrev emit (elt : Expr) : Env → Value → Sem Unit := fun env acc => (do let _ ← call (.builtin "list.append") [acc, ← eval elt env])

theorem Fm.samebut {F : Fr1} {s : Shared} {h' : Heap} {l : Addr} {vs : List Value} (f : Fm C F Γ s) (hl : PLst s.heap l vs) (ho : F.own l) (hs : Heap.SameBut l s.heap h') (hl' : ∃ vs', PLst h' l vs') : Fm C F Γ { s with heap := h' } := by
  have kp : ∀ b o, b ≠ l → s.heap.get? b = some o → h'.get? b = some o := fun b o n e => (hs.2 b n).trans e
  have rp : ∀ {d v}, Rep s.heap F.own d v → Rep h' F.own d v := fun {d v} x => x.mono (fun b o n _ e => ⟨n, kp b o (fun q => n (q ▸ ho)) e⟩) d
  obtain ⟨m₀, hl⟩ := hl
  refine { f with wd := ⟨fun b o e => kp b o (fun q => by rw [q, f.wd.nown l ho] at e; cases e) (f.wd.base b o e), f.wd.nown, fun b e => ?_, f.wd.pos⟩, ns := ?_, cel := fun x hx => ?_ }
  · by_cases q : b = l
    · subst q; obtain ⟨_, _, z⟩ := hl'; exact ⟨_, z⟩
    · obtain ⟨o, z⟩ := f.wd.oal b e; exact ⟨o, kp b o q z⟩
  · obtain ⟨m, ⟨o, es, ep, h1, h2, r⟩, hm⟩ := f.ns
    refine ⟨m, ⟨o, es, ep, kp _ _ (fun q => ?_) h1, h2, r⟩, fun x d e q => by obtain ⟨v, h1, h2⟩ := hm x d e q; exact ⟨v, h1, rp h2⟩⟩
    rw [q, hl] at h1; cases h1; cases h2
  · obtain ⟨c, o, vv, h1, h2, h3, h4, h5, h6, h7, h8, h9⟩ := f.cel x hx
    refine ⟨c, o, vv, h1, h2, h3, kp _ _ (fun q => ?_) h4, h5, h6, h7, h8, fun d e => by obtain ⟨v, e1, e2⟩ := h9 d e; exact ⟨v, e1, rp e2⟩⟩
    rw [q, hl] at h4; cases h4; cases h8

theorem Tl.emit {elt : Expr} {d : D} (h : Ev C n nm Γ elt d) : Tl C n nm (emit elt) Γ [d] := fun F A s acc pre vs q a f ho hm hl hp hz => by
  refine wpAny_bind (bot_mono (h.go F A s q a f) fun v s₁ ⟨y, z⟩ => wpAny_bind ?_)
  have hl₁ : PLst s₁.heap acc vs := hl.at fun o e => y.all _ o e
  refine append_ok hl₁ (by rw [hp.length]; simp at hz; omega) fun h' hl' hs => wpAny_pure ?_
  have kp : ∀ b o, b ≠ acc → s₁.heap.get? b = some o → h'.get? b = some o := fun b o n e => (hs.2 b n).trans e
  have y₂ : Step F.mt s₁ { s₁ with heap := h' } := .heap (fun b o n e => kp b o (fun q => n (q ▸ hm)) e) fun b o e => by
    by_cases q : b = acc
    · subst q; obtain ⟨_, z⟩ := hl'; exact ⟨_, z⟩
    · exact ⟨o, kp b o q e⟩
  refine ⟨y.non.trans y₂, (f.step y).samebut hl₁ ho hs ⟨_, hl'⟩, _, hl', ?_⟩
  exact Reps.append ((hp.stepN y).step y₂ f.mto) (.one (z.step y₂ f.mto))

/-- one item of a comprehension's loop -/
structure Itm (C : Cx) (n : Nat) (nm : Names) (t : Expr) (ifs : List Expr) (tail : Env → Value → Sem Unit) (Γ : Gam) (d : D) (out : List D) : Prop where
  ok : ∃ Γ₁ b o, Asn C nm t d Γ Γ₁ ∧ Sub Γ Γ₁ ∧ Tests C n nm Γ₁ ifs b ∧ (b = true → Tl C n nm tail Γ₁ o) ∧ out = (bif b then o else [])
inductive Itms (C : Cx) (n : Nat) (nm : Names) (t : Expr) (ifs : List Expr) (tail : Env → Value → Sem Unit) (Γ : Gam) : List D → List D → Prop
  | nil : Itms C n nm t ifs tail Γ [] []
  | cons {d l o r} : Itm C n nm t ifs tail Γ d o → Itms C n nm t ifs tail Γ l r → Itms C n nm t ifs tail Γ (d :: l) (o ++ r)

noncomputable abbrev turnForm (t iter : Expr) (ifs : List Expr) (tail : Env → Value → Sem Unit) (c : Code) (it acc : Value) (env : Env) : Sem Fin := do
  standAt iter.pos
  match ← pyNext it with
  | none => pure (.done .next)
  | some v =>
    letOwnedTupleGo t it v
    assign t env v
    let mut ok := true
    for c in ifs do
      if ok then ok ← isTrue c env (eval c env)
    if ok then
      tail env acc
    again c

theorem comp_loop {F : Fr1} {A : Around} {a acc : Addr} {Z : Own} {gs : Nat → Prop} {W : Own → List D → Shared → Prop} {elt t iter : Expr} {gens : List Comprehension} {sc : Scope} {cp : Pos} {ifs : List Expr} {depth : Nat} {tail : Env → Value → Sem Unit} (it : IsIt C (n + 1) a Z gs W) (q : F.nm = nm) (ak : Aok (n + 1) A)
    (hb : ∀ b, Z b → C.h₀.get? b = none) (ho : F.own acc) (hac : F.mt acc)
    (hturn : ∀ it acc env, compTurn (.ListComp elt gens sc cp) depth it acc env = turnForm t iter ifs tail (.compLoop (.ListComp elt gens sc cp) depth it acc env) it acc env) :
    ∀ (l outs : List D) (pre : List D) (vs : List Value) (s : Shared), Itms C (n + 1) nm t ifs tail Γ l outs → Fm C F Γ s → W F.own l s → PLst s.heap acc vs → Reps s.heap F.own pre vs → pre.length + outs.length ≤ sizeLine →
      codeAny (model C.prog C.w) A (.compLoop (.ListComp elt gens sc cp) depth (.ref a) (.ref acc) F.env) (fun r s' => StepG F.mt Z gs s s' ∧ r = .ok .next ∧ Fm C F Γ s' ∧ ∃ vs', PLst s'.heap acc vs' ∧ Reps s'.heap F.own (pre ++ outs) vs') s := by
  intro l outs pre vs s hi f hw hl hp hz
  refine codeAny_loop rfl (fun k s' => ∃ l o r vs', l.length = k ∧ Itms C (n + 1) nm t ifs tail Γ l r ∧ outs = o ++ r ∧ Fm C F Γ s' ∧ W F.own l s' ∧ PLst s'.heap acc vs' ∧ Reps s'.heap F.own (pre ++ o) vs' ∧ StepG F.mt Z gs s s') ?_ l.length
    ⟨l, [], outs, vs, rfl, hi, rfl, f, hw, hl, by simpa using hp, .refl⟩
  clear hw hl hp f
  rintro k s₁ ⟨l, o, r, vs', rfl, hi2, hor, f, hw, hl, hp, st⟩
  clear hi
  show wpAny _ A ((compTurn (.ListComp elt gens sc cp) depth (.ref a) (.ref acc) F.env).onRaise (fun x => do noteFrame x F.env; theTreesLotGoes x)) _ _ s₁
  refine wpAny_noted ?_
  rw [hturn]
  refine wpAny_bind (wpAny_standAt (wpAny_bind ?_))
  cases hi2 with
  | nil =>
    subst hor
    refine bot_mono (it.done F.own A s₁ (ak.le (by omega)) ak f.wd hw) fun r s₂ ⟨e, y⟩ => ?_
    subst e
    refine wpAny_pure ⟨st.trans (y.g), rfl, f.stepI y hb, vs', ?_, ?_⟩
    · obtain ⟨m, z⟩ := hl; exact ⟨m, y.seq _ _ rfl z⟩
    · simpa using hp.stepI y
  | @cons d l o₁ r₁ h1 h2 =>
    subst hor
    refine bot_mono (it.next F.own d l A s₁ (ak.le (by omega)) ak f.wd hw) fun r s₂ ⟨v, e, y, hv, hw₂⟩ => ?_
    subst e
    obtain ⟨Γ₁, b, oo, ha, hs, ht, htl, rfl⟩ := h1.ok
    refine wpAny_bind (bot_mono (it.letgo F.own l A s₂ t v hw₂) fun _ s₃ e => ?_)
    subst e
    have f₂ := f.stepI y hb
    have hl₂ : PLst s₃.heap acc vs' := by obtain ⟨m, z⟩ := hl; exact ⟨m, y.seq _ _ rfl z⟩
    have hp₂ := hp.stepI y
    -- the store leaves the made list alone
    refine wpAny_bind (bot_mono (ha.go F A s₃ v ⟨fun F h => F.own acc ∧ (∃ m, h.get? acc = some { cls := .type "list", data := .seq vs'.toArray m } ∧ ¬ (acc = F.env.locals ∨ F.cellAt acc)), fun F h h' k o ⟨z0, m, z1, z2⟩ => ⟨z0, m, k _ _ z2 rfl z1, z2⟩, fun F h h' a n k ⟨z0, m, z1, z2⟩ => ⟨.inl z0, m, k _ _ z1, z2⟩⟩ q (ak.le (by omega)) f₂ hv ⟨ho, ?_⟩) fun _ s₄ ⟨y₄, f₄, _, m₄, hl₄, _⟩ => ?_)
    · obtain ⟨m, z⟩ := hl₂
      refine ⟨m, z, ?_⟩
      rintro (rfl | ⟨x, hx, hc⟩)
      · obtain ⟨_, ⟨o', es, ep, g1, g2, _⟩, _⟩ := f₂.ns
        rw [z] at g1; cases g1; cases g2
      · obtain ⟨c, o', vv, k1, _, _, k4, _, _, _, k8, _⟩ := f₂.cel x hx
        rw [k1] at hc; cases hc
        rw [z] at k4; cases k4; cases k8
    have st₄ : StepG F.mt Z gs s s₄ := (st.trans (y.g)).trans (y₄.g fun _ e => e)
    have hw₄ := it.st F.own l _ _ F.mt hw₂ y₄ f.mto
    refine wpAny_bind (bot_mono (ht F A s₄ q ak f₄) fun ok s₅ ⟨y₅, e⟩ => ?_)
    subst e
    have f₅ := f₄.step y₅
    have hp₅ : Reps s₅.heap F.own (pre ++ o) vs' := (hp₂.step y₄ f.mto).stepN y₅
    have hl₅ : PLst s₅.heap acc vs' := ⟨m₄, y₅.all _ _ hl₄⟩
    have st₅ : StepG F.mt Z gs s s₅ := st₄.trans (y₅.g fun _ => False.elim)
    have hw₅ := it.st F.own l _ _ No hw₄ y₅ (fun _ => False.elim)
    cases ok with
    | false =>
      refine wpAny_pure ⟨rfl, l.length, Nat.lt_succ_self _, l, o, r₁, vs', rfl, h2, by simp, f₅.sub hs, hw₅, hl₅, hp₅, st₅⟩
    | true =>
      refine wpAny_bind (bot_mono (htl rfl F A s₅ acc (pre ++ o) vs' q ak f₅ ho hac hl₅ hp₅ (by simp at hz ⊢; omega)) fun _ s₆ ⟨y₆, f₆, vs₆, hl₆, hp₆⟩ => ?_)
      refine wpAny_pure ⟨rfl, l.length, Nat.lt_succ_self _, l, o ++ oo, r₁, vs₆, rfl, h2, by simp, f₆.sub hs, it.st F.own l _ _ F.mt hw₅ y₆ f.mto, hl₆, by simpa using hp₆, st₅.trans (y₆.g fun _ e => e)⟩
end Mine
namespace Mine
open PySem PySem.Calls PyProof.Rows PySem.W
variable {C : Cx} {n : Nat} {nm : Names} {Γ : Gam}

noncomputable abbrev emptyCell : Obj := { cls := .type "cell", data := .cell none }
structure Mid (names : Names) (s : Shared) (L : Addr) (pre : List (Str × Addr)) (h : Heap) : Prop where
  keep : ∀ b o, s.heap.get? b = some o → h.get? b = some o
  new : s.heap.get? L = none
  ns : h.Ns L fun _ => none
  pre1 : ∀ x c, (x, c) ∈ pre → (x, NameKind.cell) ∈ names ∧ s.heap.get? c = none ∧ c ≠ L ∧ h.get? c = some emptyCell
  nod : (pre.map (·.2)).Nodup
  all : ∀ x, (x, NameKind.cell) ∈ names → ∃ c, (x, c) ∈ pre

noncomputable abbrev storeAll (env : Env) (binds : List (Str × Value)) : Sem PUnit := forIn binds PUnit.unit fun x r => do storeName env x.1 x.2; pure (ForInStep.yield PUnit.unit)

theorem cells_loop {M : Model} {A : Around} {E : Value → Shared → Prop} (f : Str × NameKind → List (Str × Addr) → Sem (ForInStep (List (Str × Addr))))
    (hf : ∀ x r, f x r = if (x.2 == NameKind.cell) = true then (do let a ← alloc emptyCell; pure (.yield ((x.1, a) :: r))) else pure (.yield r))
    (names : Names) (closure : List (Str × Addr)) (s s₁ : Shared) (L : Addr) (hL : s₁ = { s with heap := s₁.heap }) (keep : ∀ b o, s.heap.get? b = some o → s₁.heap.get? b = some o) (new : s.heap.get? L = none) (ns : s₁.heap.Ns L fun _ => none)
    {Q : List (Str × Addr) → Shared → Prop} (h : ∀ pre h', Mid names s L pre h' → Q (pre ++ closure) { s with heap := h' }) :
    wpAny M A (forIn names closure f) Q E s₁ := by
  refine wpAny_forIn_list f (fun rest b s' => ∃ done pre h', names = done ++ rest ∧ b = pre ++ closure ∧ s' = { s with heap := h' } ∧ Mid done s L pre h') Q ?_ ?_ names closure
    ⟨[], [], s₁.heap, rfl, rfl, hL, ⟨keep, new, ns, fun _ _ h => (nomatch h), List.nodup_nil, fun _ h => (nomatch h)⟩⟩
  · rintro ⟨x, k⟩ rest b s' ⟨done, pre, h', hn, rfl, rfl, m⟩
    rw [hf]
    by_cases hk : k = .cell
    · subst hk
      rw [if_pos (by rfl)]
      refine wpAny_bind (wpAny_alloc (wpAny_pure ⟨done ++ [(x, .cell)], (x, h'.objs.size) :: pre, h'.push emptyCell, by rw [hn]; simp, rfl, rfl, ?_⟩))
      have nn : ∀ b o, h'.get? b = some o → b ≠ h'.objs.size := fun b o e => Nat.ne_of_lt (Heap.lt_size e)
      refine ⟨fun b o e => Heap.get?_push_of_some _ (m.keep b o e), m.new, m.ns.push _, fun y c hc => ?_, ?_, fun y hy => ?_⟩
      · rcases List.mem_cons.mp hc with hc | hc
        · cases hc
          refine ⟨by simp, ?_, ?_, Heap.get?_push_size _ rfl⟩
          · cases e : s.heap.get? h'.objs.size with
            | none => rfl
            | some o => exact absurd rfl (nn _ _ (m.keep _ _ e))
          · obtain ⟨o, _, _, e, _⟩ := m.ns
            exact (nn _ _ e).symm
        · obtain ⟨h1, h2, h3, h4⟩ := m.pre1 y c hc
          exact ⟨by simp [h1], h2, h3, Heap.get?_push_of_some _ h4⟩
      · rw [List.map_cons, List.nodup_cons]
        refine ⟨fun hm => ?_, m.nod⟩
        obtain ⟨⟨y, c⟩, hc, hq⟩ := List.mem_map.mp hm
        exact nn _ _ (m.pre1 y c hc).2.2.2 hq
      · rcases List.mem_append.mp hy with hy | hy
        · obtain ⟨c, hc⟩ := m.all y hy; exact ⟨c, .tail _ hc⟩
        · rcases List.mem_singleton.mp hy with hy; cases hy; exact ⟨_, .head _⟩
    · rw [if_neg (by simpa using hk)]
      refine wpAny_pure ⟨done ++ [(x, k)], pre, h', by rw [hn]; simp, rfl, rfl, ⟨m.keep, m.new, m.ns, fun y c hc => ?_, m.nod, fun y hy => ?_⟩⟩
      · obtain ⟨h1, h2⟩ := m.pre1 y c hc
        exact ⟨by simp [h1], h2⟩
      · rcases List.mem_append.mp hy with hy | hy
        · exact m.all y hy
        · rcases List.mem_singleton.mp hy with hy; cases hy; exact absurd rfl hk
  · rintro b s' ⟨done, pre, h', hn, rfl, rfl, m⟩
    rw [List.append_nil] at hn; subst hn
    exact h pre h' m

theorem newEnv_ok {M : Model} {A : Around} {E : Value → Shared → Prop} {s : Shared} {scope : Scope} {globals : Addr} {closure : List (Str × Addr)} {binds : List (Str × Value)} {qual : Str} {func : Option Addr} {code : Value} {around : Option Env} {builtins : Addr} {Q : Env → Shared → Prop}
    (h : ∀ L pre h', Mid scope.names s L pre h' → wpAny M A (storeAll (newEnv scope L globals (pre ++ closure) qual func code around builtins) binds) (fun _ s' => Q (newEnv scope L globals (pre ++ closure) qual func code around builtins) s') E { s with heap := h' }) :
    wpAny M A (newFunctionEnv scope globals closure binds qual func code around builtins) Q E s := by
  cases around with
  | none =>
    simp only [newFunctionEnv, Option.isSome_none, Bool.false_eq_true, if_false]
    refine wpAny_bind (wpAny_alloc ?_)
    refine wpAny_bind (cells_loop _ (fun x r => ?_) scope.names closure s _ s.heap.objs.size rfl (fun _ _ e => Heap.get?_push_of_some _ e) fresh_none (Heap.Ns.new ..) fun pre h' m => ?_)
    · obtain ⟨a, b⟩ := x; rfl
    · exact wpAny_bind (wpAny_mono (h _ pre h' m) (fun _ _ q => wpAny_pure q) fun _ _ q => q)
  | some outer =>
    simp only [newFunctionEnv, Option.isSome_some, if_true]
    refine wpAny_bind (wpAny_alloc ?_)
    refine wpAny_bind (cells_loop _ (fun x r => ?_) scope.names closure s _ s.heap.objs.size rfl (fun _ _ e => Heap.get?_push_of_some _ e) fresh_none (Heap.Ns.new ..) fun pre h' m => ?_)
    · obtain ⟨a, b⟩ := x; rfl
    · exact wpAny_bind (wpAny_mono (h _ pre h' m) (fun _ _ q => wpAny_pure q) fun _ _ q => q)

noncomputable def nmOk (names : Names) : Bool := names.all fun p => names.lookup p.1 == some p.2
theorem nmOk_mem {names : Names} (h : nmOk names = true) {x : Str} {k : NameKind} (m : (x, k) ∈ names) : names.lookup x = some k := by
  have := List.all_eq_true.mp h _ m
  exact beq_iff_eq.mp this
theorem mem_of_lk {α β : Type} [BEq α] [LawfulBEq α] : ∀ {l : List (α × β)} {x : α} {y : β}, l.lookup x = some y → (x, y) ∈ l
  | [], _, _, h => by cases h
  | (a, b) :: l, x, y, h => by
    rw [List.lookup_cons] at h
    cases q : x == a with
    | true => rw [q] at h; cases h; rw [beq_iff_eq.mp q]; exact .head _
    | false => rw [q] at h; exact .tail _ (mem_of_lk h)
theorem lk_of_mem {α β : Type} [BEq α] [LawfulBEq α] : ∀ {l : List (α × β)} {x : α} {y : β}, (x, y) ∈ l → ∃ z, l.lookup x = some z
  | (a, b) :: l, x, y, h => by
    rw [List.lookup_cons]
    cases q : x == a with
    | true => exact ⟨_, rfl⟩
    | false =>
      rcases List.mem_cons.mp h with h | h
      · cases h; simp at q
      · exact lk_of_mem h
theorem lk_app {α β : Type} [BEq α] [LawfulBEq α] (l l' : List (α × β)) (x : α) : (l ++ l').lookup x = (l.lookup x).or (l'.lookup x) := by
  induction l with
  | nil => simp
  | cons p l ih =>
    obtain ⟨a, b⟩ := p
    rw [List.cons_append, List.lookup_cons, List.lookup_cons]
    cases x == a with
    | true => rfl
    | false => exact ih
theorem nod_eq {pre : List (Str × Addr)} (h : (pre.map (·.2)).Nodup) : ∀ {x y : Str} {c : Addr}, (x, c) ∈ pre → (y, c) ∈ pre → x = y := by
  induction pre with
  | nil => intro x y c h; cases h
  | cons p l ih =>
    intro x y c h1 h2
    rw [List.map_cons, List.nodup_cons] at h
    rcases List.mem_cons.mp h1 with h1 | h1 <;> rcases List.mem_cons.mp h2 with h2 | h2
    · rw [← h1] at h2; cases h2; rfl
    · exact absurd (List.mem_map.mpr ⟨_, h2, by rw [← h1]⟩) h.1
    · exact absurd (List.mem_map.mpr ⟨_, h1, by rw [← h2]⟩) h.1
    · exact ih h.2 h1 h2

noncomputable abbrev preA (pre : List (Str × Addr)) (b : Addr) : Prop := ∃ x, (x, b) ∈ pre
theorem Mid.fresh {names : Names} {s : Shared} {L : Addr} {pre : List (Str × Addr)} {h : Heap} (m : Mid names s L pre h) {b : Addr} (q : b = L ∨ preA pre b) : s.heap.get? b = none := by
  rcases q with rfl | ⟨x, q⟩
  · exact m.new
  · exact (m.pre1 x b q).2.1
theorem Mid.wd {names : Names} {s : Shared} {L : Addr} {pre : List (Str × Addr)} {h : Heap} (m : Mid names s L pre h) {own : Own} (w : Wd C own s) : Wd C (fun b => own b ∨ (b = L ∨ preA pre b)) { s with heap := h } := by
  refine ⟨fun b o e => m.keep b o (w.base b o e), fun b e => e.elim (w.nown b) fun e => ?_, fun b e => e.elim (fun e => let ⟨o, q⟩ := w.oal b e; ⟨o, m.keep b o q⟩) fun e => ?_, w.pos⟩
  · cases q : C.h₀.get? b with
    | none => rfl
    | some o => have := w.base b o q; rw [m.fresh e] at this; cases this
  · rcases e with rfl | ⟨x, e⟩
    · obtain ⟨o, _, _, q, _⟩ := m.ns; exact ⟨o, q⟩
    · exact ⟨_, (m.pre1 x b e).2.2.2⟩
theorem Mid.cellOf {names : Names} {s : Shared} {L : Addr} {pre : List (Str × Addr)} {h : Heap} (m : Mid names s L pre h) {x : Str} (hx : names.lookup x = some .cell) (cl : List (Str × Addr)) : ∃ c, (x, c) ∈ pre ∧ (pre ++ cl).lookup x = some c := by
  obtain ⟨c, hc⟩ := m.all x (mem_of_lk hx)
  obtain ⟨c', hc'⟩ := lk_of_mem hc
  exact ⟨c', mem_of_lk hc', by rw [lk_app, hc']; rfl⟩
theorem Mid.freeOf {names : Names} {s : Shared} {L : Addr} {pre : List (Str × Addr)} {h : Heap} (m : Mid names s L pre h) (ok : nmOk names = true) {x : Str} (hx : names.lookup x = some .free) (cl : List (Str × Addr)) : (pre ++ cl).lookup x = cl.lookup x := by
  rw [lk_app]
  cases e : pre.lookup x with
  | none => rfl
  | some c =>
    have := nmOk_mem ok (m.pre1 x c (mem_of_lk e)).1
    rw [hx] at this; cases this

/-- the frame of a comprehension -/
theorem Mid.comp {F : Fr1} {s : Shared} {L : Addr} {pre cl : List (Str × Addr)} {h : Heap} {sc : Scope} {env : Env} {mt : Own} {Γ' : Gam} (m : Mid sc.names s L pre h) (f : Fm C F Γ s) (ok : nmOk sc.names = true)
    (hk : env.scope.kind = .function) (hco : env.scope.isCoroutine = false) (hnm : ∀ x, env.kindOf x = sc.names.lookup x ∨ (sc.names.lookup x = some .free ∧ env.kindOf x = some .cell)) (hg : env.globals = mainGlobals) (hb : env.builtins = builtinsNs)
    (hl : env.locals = L) (hc : env.cells = pre ++ cl) (hcl : ∀ x, sc.names.lookup x = some .free → isCel (F.nm.lookup x) ∧ cl.lookup x = F.env.cells.lookup x) (hmt : ∀ b, mt b → F.own b)
    (hΓ : ∀ x d, Γ'.lookup x = some d → sc.names.lookup x = some .free ∧ Γ.lookup x = some d) :
    Fm C { env, nm := sc.names, own := fun b => F.own b ∨ (b = L ∨ preA pre b), mt := fun b => mt b ∨ (b = L ∨ preA pre b), ret := F.own } Γ' { s with heap := h } := by
  have rp : ∀ {d v}, Rep s.heap F.own d v → Rep h (fun b => F.own b ∨ (b = L ∨ preA pre b)) d v := fun {d v} x => x.mono (fun b o n _ e => ⟨fun q => q.elim n fun q => (by rw [m.fresh q] at e; cases e), m.keep b o e⟩) d
  refine { wd := m.wd f.wd, mto := fun b e => e.imp (hmt b) id, reto := fun b e => .inl e, kind := hk, co := hco, nms := hnm, glob := hg, blt := hb, mtl := .inr (.inl hl), mtc := fun x c e q => ?_, ns := ⟨fun _ => none, hl ▸ m.ns, fun x d e q => ?_⟩, cel := fun x hx => ?_, inj := fun x y c hx hy ex ey => ?_ }
  · obtain ⟨c', h1, h2⟩ := m.cellOf e cl
    rw [hc] at q; rw [h2] at q; cases q
    exact .inr (.inr ⟨x, h1⟩)
  · have := (hΓ x d e).1; rw [q] at this; cases this
  · rcases hx with hx | hx
    · obtain ⟨c, h1, h2⟩ := m.cellOf hx cl
      obtain ⟨_, g1, g2, g3⟩ := m.pre1 x c h1
      refine ⟨c, emptyCell, none, by rw [hc]; exact h2, .inr (.inr ⟨x, h1⟩), hl ▸ g2, g3, rfl, rfl, rfl, rfl, fun d e => ?_⟩
      have := (hΓ x d e).1; rw [hx] at this; cases this
    · obtain ⟨k1, k2⟩ := hcl x hx
      obtain ⟨c, o, vv, h1, h2, h3, h4, h5, h6, h7, h8, h9⟩ := f.cel x k1
      refine ⟨c, o, vv, by rw [hc, m.freeOf ok hx, k2]; exact h1, .inl h2, ?_, m.keep _ _ h4, h5, h6, h7, h8, fun d e => ?_⟩
      · rintro rfl; rw [hl, m.new] at h4; cases h4
      · obtain ⟨v, e1, e2⟩ := h9 d (hΓ x d e).2
        exact ⟨v, e1, rp e2⟩
  · rw [hc] at ex ey
    have key : ∀ z, isCel (sc.names.lookup z) → (pre ++ cl).lookup z = some c → (z, c) ∈ pre ∨ ((∃ o, s.heap.get? c = some o) ∧ isCel (F.nm.lookup z) ∧ F.env.cells.lookup z = some c) := by
      intro z hz ez
      rcases hz with hz | hz
      · obtain ⟨c', h1, h2⟩ := m.cellOf hz cl
        rw [h2] at ez; cases ez; exact .inl h1
      · obtain ⟨k1, k2⟩ := hcl z hz
        rw [m.freeOf ok hz, k2] at ez
        obtain ⟨c', o, vv, h1, _, _, h4, _⟩ := f.cel z k1
        rw [h1] at ez; cases ez
        exact .inr ⟨⟨o, h4⟩, k1, h1⟩
    rcases key x hx ex with a1 | ⟨⟨o, a1⟩, a2, a3⟩ <;> rcases key y hy ey with b1 | ⟨⟨o', b1⟩, b2, b3⟩
    · exact nod_eq m.nod a1 b1
    · rw [(m.pre1 x c a1).2.1] at b1; cases b1
    · rw [(m.pre1 y c b1).2.1] at a1; cases a1
    · exact f.inj x y c a2 b2 a3 b3
/-- the frame of a def -/
theorem Mid.fn {own : Own} {s : Shared} {L : Addr} {pre : List (Str × Addr)} {h : Heap} {sc : Scope} {env : Env} (m : Mid sc.names s L pre h) (w : Wd C own s)
    (hk : env.scope.kind = .function) (hco : env.scope.isCoroutine = false) (hnm : env.scope.names = sc.names) (hg : env.globals = mainGlobals) (hb : env.builtins = builtinsNs)
    (hl : env.locals = L) (hc : env.cells = pre) (hfree : ∀ p ∈ sc.names, p.2 ≠ .free) :
    Fm C { env, nm := sc.names, own := fun b => own b ∨ (b = L ∨ preA pre b), mt := fun b => b = L ∨ preA pre b, ret := own } [] { s with heap := h } := by
  have nofree : ∀ x, sc.names.lookup x ≠ some .free := fun x e => hfree _ (mem_of_lk e) rfl
  refine { wd := m.wd w, mto := fun b e => .inr e, reto := fun b e => .inl e, kind := hk, co := hco, nms := fun x => .inl (by unfold Env.kindOf; rw [hnm]), glob := hg, blt := hb, mtl := .inl hl, mtc := fun x c e q => ?_, ns := ⟨fun _ => none, hl ▸ m.ns, fun x d e q => by cases e⟩, cel := fun x hx => ?_, inj := fun x y c hx hy ex ey => ?_ }
  · obtain ⟨c', h1, h2⟩ := m.cellOf e []
    rw [hc] at q; rw [List.append_nil] at h2; rw [h2] at q; cases q
    exact .inr ⟨x, h1⟩
  · rcases hx with hx | hx
    · obtain ⟨c, h1, h2⟩ := m.cellOf hx []
      obtain ⟨_, g1, g2, g3⟩ := m.pre1 x c h1
      exact ⟨c, emptyCell, none, by rw [hc]; simpa using h2, .inr (.inr ⟨x, h1⟩), hl ▸ g2, g3, rfl, rfl, rfl, rfl, fun d e => by cases e⟩
    · exact absurd hx (nofree x)
  · rw [hc] at ex ey
    exact nod_eq m.nod (mem_of_lk ex) (mem_of_lk ey)
end Mine
namespace Mine
open PySem PySem.Calls PyProof.Rows PySem.W
variable {C : Cx} {n : Nat} {nm : Names} {Γ : Gam}

/-! defs -/
structure IsFn (C : Cx) (f : Addr) (ps : List Str) (body : List Stmt) (sc : Scope) : Prop where
  ex : ∃ o fd, C.h₀.get? f = some o ∧ o.data = .func fd ∧ fd.scope = sc ∧ fd.body = .stmts body ∧ fd.closure = [] ∧ fd.globals = mainGlobals ∧ fd.builtins = builtinsNs ∧ C.h₀.CodeRec fd.code fd.qualname ∧
    ∀ vs : List Value, vs.length = ps.length → bindArgs fd ⟨vs, []⟩ = pure (ps.zip vs)
noncomputable def fnOk (sc : Scope) (ps : List Str) : Bool := sc.kind == .function && !sc.isCoroutine && !sc.isGenerator && (sc.names.all fun p => p.2 != .free) && ps.all fun x => sc.names.lookup x == some .local || sc.names.lookup x == some .cell
noncomputable def pushes : List Str → List D → Gam → Gam
  | x :: ps, d :: ds, Γ => pushes ps ds ((x, d) :: Γ)
  | _, _, Γ => Γ
theorem storeAll_ok {F : Fr1} {A : Around} (ps : List Str) : ∀ (ds : List D) (vs : List Value) (Γ : Gam) (s : Shared), (ps.all fun x => F.nm.lookup x == some .local || F.nm.lookup x == some .cell) = true → Fm C F Γ s → Reps s.heap F.own ds vs → ps.length = ds.length →
    wpAny (model C.prog C.w) A (storeAll F.env (ps.zip vs)) (fun _ s' => Step F.mt s s' ∧ Fm C F (pushes ps ds Γ) s') Bot s := by
  induction ps with
  | nil =>
    intro ds vs Γ s _ f _ _
    unfold storeAll
    rw [List.zip_nil_left, List.forIn_nil]
    exact wpAny_pure ⟨.refl .., by unfold pushes; exact f⟩
  | cons x ps ih =>
    intro ds vs Γ s h f hr hl
    cases ds with
    | nil => cases hl
    | cons d ds =>
      obtain ⟨v, r, rfl, z1, z2⟩ := hr
      rw [List.all_cons, Bool.and_eq_true] at h
      have hk : F.nm.lookup x = some .local ∨ F.nm.lookup x = some .cell := by
        rcases (Bool.or_eq_true _ _).mp h.1 with e | e
        · exact .inl (beq_iff_eq.mp e)
        · exact .inr (beq_iff_eq.mp e)
      unfold storeAll
      rw [List.zip_cons_cons, List.forIn_cons]
      refine wpAny_bind (wpAny_bind (wpAny_mono (store_ok (E := Bot) (I := noB) f hk z1 trivial) (fun _ s₁ ⟨y, f₁, _⟩ => wpAny_pure ?_) fun _ _ x => x))
      exact bot_mono (ih ds r _ s₁ h.2 f₁ (z2.step y f.mto) (by simpa using hl)) fun _ s₂ ⟨y₂, w⟩ => ⟨y.trans y₂, w⟩
theorem Fn.intro {f : Addr} {ps : List Str} {body : List Stmt} {sc : Scope} {ds : List D} {d : D} (O : C.Ok) (hf : IsFn C f ps body sc) (hk : fnOk sc ps = true) (hl : ps.length = ds.length)
    (h : Ex C n sc.names (pushes ps ds []) noB body (fun o => match o with | .ret e => e = d | _ => False)) : Fn C n f ds d := fun A s own vs a w hr => by
  obtain ⟨o, fd, ho, hd, rfl, hbody, hclo, hgl, hbl, hcode, hbind⟩ := hf.ex
  unfold fnOk at hk
  simp only [Bool.and_eq_true, Bool.not_eq_true', beq_iff_eq] at hk
  obtain ⟨⟨⟨⟨k1, k2⟩, k3⟩, k4⟩, k5⟩ := hk
  have hnf : ∀ p ∈ fd.scope.names, p.2 ≠ .free := fun p hp => by simpa using List.all_eq_true.mp k4 p hp
  refine codeAny_call_function (a.room) (w.base _ _ ho) hd k2 k3 hbody (hcode.keeps w.base) ?_
  rw [hbind vs (by rw [hr.length, hl])]
  refine wpAny_pure (newEnv_ok fun L pre h' m => ?_)
  rw [hclo, hgl, hbl]
  have f₀ := m.fn (env := newEnv fd.scope L mainGlobals (pre ++ []) (fd.qualname ++ ".<locals>.") (some f) fd.code none builtinsNs) w k1 k2 rfl rfl rfl rfl (List.append_nil _) hnf
  have y₀ : Step No s { s with heap := h' } := .ext m.keep
  have hr' : Reps h' (fun b => own b ∨ (b = L ∨ preA pre b)) ds vs := hr.mono (fun b o n _ e => ⟨fun q => q.elim n fun q => (by rw [m.fresh q] at e; cases e), m.keep b o e⟩) ds
  refine bot_mono (storeAll_ok (F := { env := newEnv fd.scope L mainGlobals (pre ++ []) (fd.qualname ++ ".<locals>.") (some f) fd.code none builtinsNs, nm := fd.scope.names, own := fun b => own b ∨ (b = L ∨ preA pre b), mt := fun b => b = L ∨ preA pre b, ret := own }) ps ds vs [] { s with heap := h' } k5 f₀ hr' hl) fun _ s₂ ⟨y₁, f₁⟩ => ?_
  refine ⟨(O.lim.keeps fun b o e => f₁.wd.base b o e), codeAny_func ?_⟩
  refine bot_mono (h.go _ (A.deeper _) s₂ rfl (a.deeper _) f₁ trivial) fun fl s₃ ⟨y₂, out, hout, hok⟩ => ?_
  cases out with
  | nxt _ _ => exact hout.elim
  | ret e =>
    cases fl with
    | ret v =>
      subst hout
      exact ⟨v, rfl, y₀.drop (y₁.trans y₂) fun b o _ e q => (by rw [m.fresh q] at e; cases e), hok⟩
    | _ => exact hok.elim

theorem Ev.calf {x : Str} {p p' : Pos} {e : Expr} {es : List Expr} {f : Addr} {o : Obj} {fd : FuncData} {ds : List D} {d : D} {k : Nat} (hx : Ev C n nm Γ (.Name x p') (.raw (.ref f))) (ha : Evs C n nm Γ (e :: es) ds) (ho : C.h₀.get? f = some o) (hd : o.data = .func fd) (hf : Fn C k f ds d) (hk : k + 1 ≤ n)
    (he : ∀ env, starEach (e :: es) env = (false, eval e env) :: starEach es env) : Ev C n nm Γ (.Call (.Name x p') (e :: es) [] p) d := .mk fun F A s q a f₀ => by
  show wpAny _ _ (eval (.Name x p') F.env >>= fun fv => callWith p fv [] (backTo p (starEach (e :: es) F.env)) (backToKw p (keywordEach [] F.env))) _ _ s
  refine wpAny_bind (bot_mono (hx.go F A s q a f₀) fun v s₁ ⟨y, z⟩ => ?_)
  cases z
  refine callWith_function (o := o) (fd := fd) ?_
  have z := ha.go F A s₁ p q a (f₀.step y)
  rw [he] at z ⊢
  refine evalArgs_plain (bot_mono z fun vs s₂ ⟨y₂, hr⟩ => ⟨⟨(f₀.step (y.trans y₂)).wd.base _ _ ho, hd⟩, wpAny_call ?_⟩)
  refine codeAny_mono (hf A s₂ F.own vs (a.le hk) (f₀.step (y.trans y₂)).wd hr) fun r s₃ ⟨v, e, y₃, z₃⟩ => ?_
  subst e
  exact ⟨(y.trans y₂).trans y₃, z₃⟩
theorem Ev.calb {x : Str} {p p' : Pos} {e : Expr} {es : List Expr} {id : String} {ds : List D} {d : D} (hx : Ev C n nm Γ (.Name x p') (.raw (.builtin id))) (ha : Evs C n nm Γ (e :: es) ds) (hf : Cal C n (.builtin id) ds d)
    (he : ∀ env, starEach (e :: es) env = (false, eval e env) :: starEach es env) (hp : ∀ env, (backTo p (starEach (e :: es) env)).any (·.1) = false) : Ev C n nm Γ (.Call (.Name x p') (e :: es) [] p) d := .mk fun F A s q a f₀ => by
  show wpAny _ _ (eval (.Name x p') F.env >>= fun fv => callWith p fv [] (backTo p (starEach (e :: es) F.env)) (backToKw p (keywordEach [] F.env))) _ _ s
  refine wpAny_bind (bot_mono (hx.go F A s q a f₀) fun v s₁ ⟨y, z⟩ => ?_)
  cases z
  refine callWith_builtin (hp _) ?_
  have z := ha.go F A s₁ p q a (f₀.step y)
  rw [he] at z ⊢
  refine evalArgs_plain (bot_mono z fun vs s₂ ⟨y₂, hr⟩ => ?_)
  exact bot_mono (hf A s₂ F.own vs a (f₀.step (y.trans y₂)).wd hr) fun v s₃ ⟨y₃, z₃⟩ => ⟨(y.trans y₂).trans y₃, z₃⟩

/-! comprehensions -/
noncomputable def cloOf (env : Env) : Names → List (Str × Addr) → List (Str × Addr)
  | [], cs => cs
  | p :: r, cs => cloOf env r (if p.2 == .free then (p.1, (env.cells.lookup p.1).getD 0) :: cs else cs)
theorem closureFor_eq {sc : Scope} {env : Env} (h : ∀ x, (x, NameKind.free) ∈ sc.names → ∃ c, env.cells.lookup x = some c) : closureFor sc env = pure (cloOf env sc.names []) := by
  unfold closureFor
  have key : ∀ (names : Names) (cs : List (Str × Addr)), (∀ x, (x, NameKind.free) ∈ names → ∃ c, env.cells.lookup x = some c) →
      (forIn names cs fun (x : Str × NameKind) (r : List (Str × Addr)) => (if (x.2 == NameKind.free) = true then (do let c ← cellOf env x.1; pure (ForInStep.yield ((x.1, c) :: r))) else pure (ForInStep.yield r) : Sem _)) = pure (cloOf env names cs) := by
    intro names
    induction names with
    | nil => intro cs _; rw [List.forIn_nil]; rfl
    | cons p r ih =>
      intro cs hh
      obtain ⟨x, k⟩ := p
      rw [List.forIn_cons]
      by_cases hk : k = .free
      · subst hk
        obtain ⟨c, hc⟩ := hh x (.head _)
        have e : cellOf env x = pure c := by unfold cellOf; rw [hc]
        simp only [beq_self_eq_true, if_true, e, pure_bind]
        rw [ih _ fun y hy => hh y (.tail _ hy)]
        simp [cloOf, hc]
      · have : (k == NameKind.free) = false := by simpa using hk
        simp only [this, Bool.false_eq_true, if_false, pure_bind]
        rw [ih _ fun y hy => hh y (.tail _ hy)]
        simp [cloOf, this]
  have := key sc.names [] h
  first
    | exact this
    | (simp only [bind_pure]; exact this)
theorem cloOf_lk (env : Env) : ∀ (names : Names) (cs : List (Str × Addr)) (x : Str), (∀ c, cs.lookup x = some c → env.cells.lookup x = some c) → ((x, NameKind.free) ∈ names ∨ ∃ c, cs.lookup x = some c) → (∀ y, (y, NameKind.free) ∈ names → ∃ c, env.cells.lookup y = some c) →
    (cloOf env names cs).lookup x = env.cells.lookup x
  | [], cs, x, h, m, _ => by
    rcases m with m | ⟨c, m⟩
    · cases m
    · show cs.lookup x = _; rw [m, h c m]
  | (y, k) :: r, cs, x, h, m, e => by
    show (cloOf env r (if k == .free then _ else cs)).lookup x = _
    by_cases hk : k = .free
    · subst hk
      obtain ⟨c, hc⟩ := e y (.head _)
      simp only [beq_self_eq_true, if_true, hc, Option.getD_some]
      refine cloOf_lk env r _ x (fun c' q => ?_) ?_ fun z hz => e z (.tail _ hz)
      · rw [List.lookup_cons] at q
        cases hxy : x == y with
        | true => rw [hxy] at q; cases q; rw [beq_iff_eq.mp hxy]; exact hc
        | false => rw [hxy] at q; exact h c' q
      · by_cases hxy : x = y
        · subst hxy; exact .inr ⟨c, by simp [List.lookup_cons]⟩
        · have : (x == y) = false := by simpa using hxy
          rcases m with m | ⟨c', m⟩
          · rcases List.mem_cons.mp m with m | m
            · cases m; exact absurd rfl hxy
            · exact .inl m
          · exact .inr ⟨c', by rw [List.lookup_cons, this]; exact m⟩
    · have : (k == NameKind.free) = false := by simpa using hk
      simp only [this, Bool.false_eq_true, if_false]
      refine cloOf_lk env r _ x h ?_ fun z hz => e z (.tail _ hz)
      rcases m with m | m
      · rcases List.mem_cons.mp m with m | m
        · cases m; exact absurd rfl hk
        · exact .inl m
      · exact .inr m
end Mine
namespace Mine
open PySem PySem.Calls PyProof.Rows PySem.W
variable {C : Cx} {n : Nat} {nm : Names} {Γ : Gam}

theorem comp_start {A : Around} {R : Result → Shared → Prop} {s : Shared} {elt t iter : Expr} {gens : List Comprehension} {sc : Scope} {cp : Pos} {ifs : List Expr} {depth : Nat} {a : Addr} {acc : Value} {env : Env} (hg : gens[depth]? = some ⟨t, iter, ifs, 0⟩)
    (hs : wpAny (model C.prog C.w) A (pyIter (.ref a)) (fun r s' => r = .ref a ∧ s' = s) Bot s)
    (h : codeAny (model C.prog C.w) A (.compLoop (.ListComp elt gens sc cp) depth (.ref a) acc env) R s) : codeAny (model C.prog C.w) A (.compStart (.ListComp elt gens sc cp) depth (.ref a) acc env) R s := by
  refine codeAny_of_tree ?_
  show wpAny _ _ ((compStart (.ListComp elt gens sc cp) depth (.ref a) acc env).onRaise (fun x => do noteFrame x env; standAt theWindowsPlace)) _ _ s
  refine wpAny_notedAt ?_
  unfold compStart
  have e1 : (clausesOf (.ListComp elt gens sc cp))[depth]? = some ⟨t, iter, ifs, 0⟩ := hg
  rw [e1]
  show wpAny _ _ (ask >>= _) _ _ s
  refine wpAny_bind (wpAny_askSetting (wpAny_ite ?_))
  split
  · first
      | exact wpAny_bind (wpAny_pure (wpAny_pure (And.intro rfl h)))
      | exact wpAny_pure (And.intro rfl h)
  · have k : ∀ {E : Value → Shared → Prop}, wpAny (model C.prog C.w) A (pyIter (.ref a)) (fun it' s' => codeAny (model C.prog C.w) A (.compLoop (.ListComp elt gens sc cp) depth it' acc env) R s') E s := fun {E} => bot_mono hs fun r s' ⟨e, e'⟩ => by subst e; subst e'; exact h
    first
      | exact wpAny_bind (wpAny_rule (wpAny_bind (wpAny_standAt (wpAny_bind (wpAny_mono k (fun it' s' h' => wpAny_pure (And.intro rfl h')) fun _ _ x => x)))))
      | (refine wpAny_bind (wpAny_rule ?_); show wpAny _ _ (standAt iter.pos >>= _) _ _ s; exact wpAny_bind (wpAny_standAt (wpAny_bind (wpAny_mono k (fun it' s' h' => wpAny_pure (And.intro rfl h')) fun _ _ x => x))))

noncomputable def compOk (nm : Names) (sc : Scope) : Bool := sc.kind == .function && !sc.isCoroutine && nmOk sc.names && sc.names.all fun p => p.2 != .free || (nm.lookup p.1 == some .cell || nm.lookup p.1 == some .free)
/-- the words that a comprehension takes along -/
noncomputable def Cap (sc : Scope) (Γ Γ' : Gam) : Prop := ∀ x d, Γ'.lookup x = some d → sc.names.lookup x = some .free ∧ Γ.lookup x = some d
theorem Cap.nil {sc : Scope} : Cap sc Γ [] := fun _ _ e => by cases e
theorem Cap.cons {sc : Scope} {Γ' : Gam} {x : Str} {d : D} (hk : sc.names.lookup x = some .free) (h : Γ.lookup x = some d) (r : Cap sc Γ Γ') : Cap sc Γ ((x, d) :: Γ') := fun y e q => by
  rcases lk_cons q with ⟨rfl, rfl⟩ | ⟨_, q⟩
  · exact ⟨hk, h⟩
  · exact r y e q

theorem relabel_lk (sc : Scope) (env : Env) (x : Str) : (relabel sc env).names.lookup x = sc.names.lookup x ∨ (sc.names.lookup x = some .free ∧ (relabel sc env).names.lookup x = some .cell) := by
  unfold relabel
  generalize sc.names = names
  induction names with
  | nil => exact .inl rfl
  | cons p r ih =>
    obtain ⟨y, k⟩ := p
    simp only [List.map_cons]
    rw [List.lookup_cons]
    by_cases hc : (k == NameKind.free && env.scope.kind == .function && env.kindOf y == some .cell) = true
    · rw [if_pos hc, List.lookup_cons]
      cases hx : x == y with
      | true =>
        right
        simp only [Bool.and_eq_true, beq_iff_eq] at hc
        exact ⟨by rw [hc.1.1], rfl⟩
      | false => exact ih
    · rw [if_neg hc, List.lookup_cons]
      cases hx : x == y with
      | true => exact .inl rfl
      | false => exact ih

theorem newList_ok {M : Model} {A : Around} {E : Value → Shared → Prop} {s : Shared} {Q : Value → Shared → Prop} (h : Q (.ref s.heap.objs.size) { s with heap := s.heap.push { cls := .type "list", data := .seq ([] : List Value).toArray } }) : wpAny M A (newList []) Q E s := wpAny_newObj_type h

theorem comp_core {use : Option (Value → Sem Unit)} {Q : Value → Shared → Prop} {elt t iter : Expr} {rest : List Comprehension} {sc : Scope} {cp : Pos} {ifs : List Expr} {tail : Env → Value → Sem Unit} {items outs : List D} {Γ' : Gam}
    (hi : ItE C (n + 1) nm Γ iter items) (ok : compOk nm sc = true) (hΓ : Cap sc Γ Γ') (his : Itms C (n + 1) sc.names t ifs tail Γ' items outs) (hz : outs.length ≤ sizeLine)
    (hturn : ∀ it acc env, compTurn (.ListComp elt (⟨t, iter, ifs, 0⟩ :: rest) sc cp) 0 it acc env = turnForm t iter ifs tail (.compLoop (.ListComp elt (⟨t, iter, ifs, 0⟩ :: rest) sc cp) 0 it acc env) it acc env)
    {F : Fr1} {A : Around} {s : Shared} (q : F.nm = nm) (a : Aok (n + 1) A) (f : Fm C F Γ s)
    (K : ∀ s' acc L vs m, Step No s s' → PLst s'.heap acc vs → s.heap.get? acc = none → Reps s'.heap F.own outs vs → s'.heap.Ns L m → s.heap.get? L = none → acc ≠ L → compPost (model C.prog C.w) A Bot use Q (.ref acc) L (.ok .next) s') :
    wpAny (model C.prog C.w) A (eval iter F.env) (fun x s₁ => wpAny (model C.prog C.w) A (pyIter x) (fun it s₂ => wpAny (model C.prog C.w) A (newList []) (fun acc s₃ =>
      wpAny (model C.prog C.w) A (newFunctionEnv sc F.env.globals (cloOf F.env sc.names []) [] F.env.qual none .none (some F.env)) (fun cenv s₄ =>
        codeAny (model C.prog C.w) A (.compStart (.ListComp elt (⟨t, iter, ifs, 0⟩ :: rest) sc cp) 0 it acc { cenv with scope := relabel sc F.env }) (compPost (model C.prog C.w) A Bot use Q acc cenv.locals) s₄) Bot s₃) Bot s₂) Bot s₁) Bot s := by
  unfold compOk at ok
  simp only [Bool.and_eq_true, Bool.not_eq_true', beq_iff_eq] at ok
  obtain ⟨⟨⟨k1, k2⟩, k3⟩, k4⟩ := ok
  have kfree : ∀ x, sc.names.lookup x = some .free → isCel (F.nm.lookup x) := fun x e => by
    have := List.all_eq_true.mp k4 _ (mem_of_lk e)
    simp only [bne_self_eq_false, Bool.false_or, Bool.or_eq_true, beq_iff_eq] at this
    rw [q]; exact this
  have hclo : ∀ x, (x, NameKind.free) ∈ sc.names → ∃ c, F.env.cells.lookup x = some c := fun x e => by
    obtain ⟨c, _, _, h1, _⟩ := f.cel x (kfree x (nmOk_mem k3 e))
    exact ⟨c, h1⟩
  refine bot_mono (hi.go F A s q a f) fun x s₁ hx => bot_mono hx fun it s₂ ⟨b, Z, gs, W, g⟩ => ?_
  rw [g.eq]
  refine newList_ok ?_
  generalize hacc : s₂.heap.objs.size = acc
  have hacc₂ : s₂.heap.get? acc = none := hacc ▸ fresh_none
  have hacc₀ : s.heap.get? acc = none := by
    cases e : s.heap.get? acc with
    | none => rfl
    | some o => have := g.step.all _ _ e; rw [hacc₂] at this; cases this
  generalize hs₃ : ({ s₂ with heap := s₂.heap.push { cls := .type "list", data := .seq ([] : List Value).toArray } } : Shared) = s₃
  have y₃ : Step No s₂ s₃ := by rw [← hs₃]; exact .push (t := s₂.toks)
  have hl₃ : PLst s₃.heap acc [] := by rw [← hs₃, ← hacc]; exact ⟨0, Heap.get?_push_size _ rfl⟩
  have f₃ : Fm C (F.add acc) Γ s₃ := f.add hacc₀ (g.step.trans y₃) (let ⟨_, e⟩ := hl₃; ⟨_, e⟩)
  refine newEnv_ok fun L pre h' m => ?_
  unfold storeAll
  rw [List.forIn_nil]
  refine wpAny_pure ?_
  have hnew : ∀ b, (b = L ∨ preA pre b) → s.heap.get? b = none := fun b e => by
    cases z : s.heap.get? b with
    | none => rfl
    | some o => have := (g.step.trans y₃).all _ _ z; rw [m.fresh e] at this; cases this
  have hnew₂ : ∀ b, (b = L ∨ preA pre b) → s₂.heap.get? b = none := fun b e => by
    cases z : s₂.heap.get? b with
    | none => rfl
    | some o => have := y₃.all _ _ z; rw [m.fresh e] at this; cases this
  have f₄ := m.comp (env := { newEnv sc L F.env.globals (pre ++ cloOf F.env sc.names []) F.env.qual none .none (some F.env) builtinsNs with scope := relabel sc F.env }) (mt := fun b => b = acc) (Γ' := Γ') f₃ k3 k1 k2 (relabel_lk sc F.env) f.glob f.blt rfl rfl
    (fun x e => ⟨kfree x e, cloOf_lk F.env sc.names [] x (fun c h => by cases h) (.inl (mem_of_lk e)) hclo⟩) (fun b e => .inr e) hΓ
  have y₄ : Step No s₃ { s₃ with heap := h' } := .ext m.keep
  have hb : ∀ c, Z c → C.h₀.get? c = none := fun c hc => base_none f.wd (g.new c hc)
  have w₄ := g.isit.st _ _ _ _ No (g.isit.st _ _ _ _ No (g.isit.ext F.own (fun b => (F.add acc).own b ∨ (b = L ∨ preA pre b)) items s₂ g.w fun c e => by
    rcases e with (e | e) | e
    · exact .inl e
    · exact .inr (e ▸ hacc₂)
    · exact .inr (hnew₂ c e)) y₃ (fun _ => False.elim)) y₄ (fun _ => False.elim)
  refine comp_start (a := b) (t := t) (iter := iter) (ifs := ifs) rfl (g.isit.self _ _ A _ w₄) ?_
  refine codeAny_mono (comp_loop (F := { env := { newEnv sc L F.env.globals (pre ++ cloOf F.env sc.names []) F.env.qual none .none (some F.env) builtinsNs with scope := relabel sc F.env }, nm := sc.names, own := fun b => (F.add acc).own b ∨ (b = L ∨ preA pre b), mt := fun b => b = acc ∨ (b = L ∨ preA pre b), ret := (F.add acc).own })
    g.isit rfl a hb (.inl (.inr rfl)) (.inl rfl) hturn items outs [] [] { s₃ with heap := h' } his f₄ w₄ (hl₃.at fun o e => m.keep _ o e) .nil (by simpa using hz)) fun r s₅ ⟨st, e, f₅, vs', hl₅, hr₅⟩ => ?_
  subst e
  have y₅ : Step No s s₅ := st.drop ((g.step.trans y₃).trans y₄) (fun c o _ e q => by
    rcases q with q | q
    · rw [q, hacc₀] at e; cases e
    · rw [hnew c q] at e; cases e) g.new g.gens
  obtain ⟨mm, hn, _⟩ := f₅.ns
  exact K s₅ acc L vs' mm y₅ hl₅ hacc₀ (Reps.weak (own := fun b => (F.add acc).own b ∨ (b = L ∨ preA pre b)) (by simpa using hr₅) fun c e => .inl (.inl e)) hn (hnew L (.inl rfl)) (fun e => by
    obtain ⟨o, es, ep, h1, h2, _⟩ := hn
    obtain ⟨k, h3⟩ := hl₅
    rw [e] at h3
    have h1' : s₅.heap.get? L = some o := h1
    rw [h3] at h1'; cases h1'; cases h2)

theorem Step.off {s s' : Shared} {L : Addr} {h' : Heap} (y : Step No s s') (n : s.heap.get? L = none) (k : ∀ b o, b ≠ L → s'.heap.get? b = some o → h'.get? b = some o) : Step No s { s' with heap := h' } := by
  have kp : ∀ b o, s.heap.get? b = some o → h'.get? b = some o := fun b o e => k b o (fun q => by rw [q, n] at e; cases e) (y.all b o e)
  exact ⟨fun b o _ e => kp b o e, fun b o e => ⟨o, kp b o e⟩, y.os, y.gens, y.bare, y.tk⟩
theorem ns_sq {h : Heap} {L : Addr} {m : Str → Option Value} (hn : h.Ns L m) {b : Addr} {o : Obj} (q : sq o = true) (e : h.get? b = some o) : b ≠ L := by
  rintro rfl
  obtain ⟨o', es, ep, h1, h2, _⟩ := hn
  rw [e] at h1; cases h1
  unfold sq at q; rw [h2] at q; cases q
theorem Ev.comp {elt t iter : Expr} {rest : List Comprehension} {sc : Scope} {cp : Pos} {ifs : List Expr} {tail : Env → Value → Sem Unit} {items outs : List D} {Γ' : Gam}
    (hi : ItE C (n + 1) nm Γ iter items) (ok : compOk nm sc = true) (hΓ : Cap sc Γ Γ') (his : Itms C (n + 1) sc.names t ifs tail Γ' items outs) (hz : outs.length ≤ sizeLine)
    (hturn : ∀ it acc env, compTurn (.ListComp elt (⟨t, iter, ifs, 0⟩ :: rest) sc cp) 0 it acc env = turnForm t iter ifs tail (.compLoop (.ListComp elt (⟨t, iter, ifs, 0⟩ :: rest) sc cp) 0 it acc env) it acc env)
    (hs : ∀ env x, foldedSetIterable iter env x = pure x) : Ev C (n + 1) nm Γ (.ListComp elt (⟨t, iter, ifs, 0⟩ :: rest) sc cp) (.lst outs) := .mk fun F A s q a f => by
  rw [eval_ListComp]
  have ok' := ok
  unfold compOk at ok'
  simp only [Bool.and_eq_true, Bool.not_eq_true', beq_iff_eq] at ok'
  obtain ⟨⟨⟨k1, k2⟩, k3⟩, k4⟩ := ok'
  refine wpAny_comprehension_free (use := none) rfl (hs _) (closureFor_eq fun x e => ?_) k1 (fun x hx e => nmOk_mem k3 (e ▸ hx)) (comp_core hi ok hΓ his hz hturn q a f fun s' acc L vs m y hl ha hr hn hL hne => ?_)
  · have := List.all_eq_true.mp k4 _ e
    simp only [bne_self_eq_false, Bool.false_or, Bool.or_eq_true, beq_iff_eq] at this
    obtain ⟨c, _, _, h1, _⟩ := f.cel x (q ▸ this)
    exact ⟨c, h1⟩
  · refine ⟨m, hn, fun h' hb => ?_⟩
    have kp : ∀ b o, b ≠ L → s'.heap.get? b = some o → h'.get? b = some o := fun b o n e => (hb.2 b n).trans e
    refine ⟨y.off hL kp, acc, vs, rfl, f.wd.off ha, hl.at fun o e => kp _ o hne e, hr.mono (fun b o n sq' e => ⟨n, kp b o (ns_sq hn sq' e) e⟩) outs⟩

theorem Fm.off {F : Fr1} {s : Shared} {h' : Heap} {L : Addr} {m : Str → Option Value} (f : Fm C F Γ s) (hn : s.heap.Ns L m) (ho : ¬ F.own L) (hb : C.h₀.get? L = none) (k : ∀ b o, b ≠ L → s.heap.get? b = some o → h'.get? b = some o) : Fm C F Γ { s with heap := h' } := by
  have rp : ∀ {d v}, Rep s.heap F.own d v → Rep h' F.own d v := fun {d v} x => x.mono (fun b o n sq' e => ⟨n, k b o (ns_sq hn sq' e) e⟩) d
  have own : ∀ {b}, F.own b → b ≠ L := fun e q => ho (q ▸ e)
  refine { f with wd := ⟨fun b o e => k b o (fun q => by rw [q, hb] at e; cases e) (f.wd.base b o e), f.wd.nown, fun b e => let ⟨o, z⟩ := f.wd.oal b e; ⟨o, k b o (own e) z⟩, f.wd.pos⟩, ns := ?_, cel := fun x hx => ?_ }
  · obtain ⟨m, ⟨o, es, ep, h1, h2, r⟩, hm⟩ := f.ns
    exact ⟨m, ⟨o, es, ep, k _ _ (own (f.mto _ f.mtl)) h1, h2, r⟩, fun x d e q => by obtain ⟨v, h1, h2⟩ := hm x d e q; exact ⟨v, h1, rp h2⟩⟩
  · obtain ⟨c, o, vv, h1, h2, h3, h4, h5, h6, h7, h8, h9⟩ := f.cel x hx
    exact ⟨c, o, vv, h1, h2, h3, k _ _ (own h2) h4, h5, h6, h7, h8, fun d e => by obtain ⟨v, e1, e2⟩ := h9 d e; exact ⟨v, e1, rp e2⟩⟩

/-- a comprehension bound to a plain local of the frame -/
theorem Ex.asgc {I : Box} {y : Str} {py p : Pos} {r : List Stmt} {P : Out → Prop} {elt t iter : Expr} {rest : List Comprehension} {sc : Scope} {cp : Pos} {ifs : List Expr} {tail : Env → Value → Sem Unit} {items outs : List D} {Γ' : Gam}
    (hi : ItE C (n + 1) nm Γ iter items) (ok : compOk nm sc = true) (hΓ : Cap sc Γ Γ') (his : Itms C (n + 1) sc.names t ifs tail Γ' items outs) (hz : outs.length ≤ sizeLine)
    (hturn : ∀ it acc env, compTurn (.ListComp elt (⟨t, iter, ifs, 0⟩ :: rest) sc cp) 0 it acc env = turnForm t iter ifs tail (.compLoop (.ListComp elt (⟨t, iter, ifs, 0⟩ :: rest) sc cp) 0 it acc env) it acc env)
    (hs : ∀ env x, foldedSetIterable iter env x = pure x) (hk : nm.lookup y = some .local) (hf : firstAsync (⟨t, iter, ifs, 0⟩ :: rest) = false)
    (hsw : ∀ env : Env, env.scope.kind = .function → env.kindOf y = some .local → swapsWith (.ListComp elt (⟨t, iter, ifs, 0⟩ :: rest) sc cp) (some (.Name y py)) p.line env = pure true)
    (k : Ex C (n + 1) nm ((y, .lst outs) :: Γ) I r P) : Ex C (n + 1) nm Γ I (.Assign [.Name y py] (.ListComp elt (⟨t, iter, ifs, 0⟩ :: rest) sc cp) p :: r) P := .mk fun F A s q a f i => by
  have ok' := ok
  unfold compOk at ok'
  simp only [Bool.and_eq_true, Bool.not_eq_true', beq_iff_eq] at ok'
  obtain ⟨⟨⟨k1, k2⟩, k3⟩, k4⟩ := ok'
  have hky : F.nm.lookup y = some .local := q ▸ hk
  refine wpAny_execs_cons ?_
  rw [exec_Assign_Name_used _ _ _ _ (hsw _ f.kind (kindOf_of f hky (by decide)))]
  refine wpAny_bind (wpAny_standAt (wpAny_bind ?_))
  show wpAny _ A (do let _ ← comprehension (.ListComp elt (⟨t, iter, ifs, 0⟩ :: rest) sc cp) sc F.env iter.pos (newList []) (firstAsync (⟨t, iter, ifs, 0⟩ :: rest)) (eval iter F.env) (some (assign (.Name y py) F.env))) _ _ s
  rw [hf]
  refine wpAny_bind (bot_mono (wpAny_comprehension_free (use := some (assign (.Name y py) F.env)) (Q := fun _ s' => Step F.mt s s' ∧ Fm C F ((y, .lst outs) :: Γ) s' ∧ I.I F s'.heap) rfl (hs _) (closureFor_eq fun x e => ?_) k1 (fun x hx e => nmOk_mem k3 (e ▸ hx)) (comp_core hi ok hΓ his hz hturn q a f fun s' acc L vs m yy hl ha hr hn hL hne => ?_)) fun _ s₂ ⟨y₂, f₂, i₂⟩ => wpAny_pure (wpAny_pure ?_))
  · have := List.all_eq_true.mp k4 _ e
    simp only [bne_self_eq_false, Bool.false_or, Bool.or_eq_true, beq_iff_eq] at this
    obtain ⟨c, _, _, h1, _⟩ := f.cel x (q ▸ this)
    exact ⟨c, h1⟩
  · show wpAny _ A (assign (.Name y py) F.env (.ref acc)) _ _ s'
    have hI : I.I F s'.heap := I.st F _ _ (fun b o _ _ e => yy.all b o e) (own_places f) i
    have hrep : Rep s'.heap F.own (.lst outs) (.ref acc) := ⟨acc, vs, rfl, f.wd.off ha, hl, hr⟩
    refine wpAny_assign_Name (wpAny_mono (store_ok (E := Bot) (f.step yy) (.inl hky) hrep hI) (fun _ s₂ ⟨y₂, f₂, i₂⟩ => ?_) fun _ _ x => x)
    have hLo : ¬ F.own L := f.wd.off hL
    have hnL : ∃ m', s₂.heap.Ns L m' := by
      obtain ⟨o, es, ep, h1, h2⟩ := hn
      exact ⟨m, o, es, ep, y₂.keep _ _ (fun e => hLo (f.mto _ e)) h1, h2⟩
    obtain ⟨m', hn'⟩ := hnL
    have hb : C.h₀.get? L = none := by
      cases e : C.h₀.get? L with
      | none => rfl
      | some o => have := f.wd.base L o e; rw [hL] at this; cases this
    refine ⟨m', hn', fun h' hb' => ?_⟩
    have kp : ∀ b o, b ≠ L → s₂.heap.get? b = some o → h'.get? b = some o := fun b o n e => (hb'.2 b n).trans e
    refine ⟨?_, f₂.off hn' hLo hb kp, I.st F _ _ (fun b o _ sq' e => kp b o (ns_sq hn' sq' e) e) (own_places f₂) i₂⟩
    have z := yy.non.trans y₂
    exact ⟨fun b o n e => kp b o (fun q => by rw [q, hL] at e; cases e) (z.keep b o n e), fun b o e => by
      obtain ⟨o', e'⟩ := z.alive b o e
      exact ⟨o', kp b o' (fun q => by rw [q, hL] at e; cases e) e'⟩, z.os, z.gens, z.bare, z.tk⟩
  · exact bot_mono (k.go F A s₂ q a f₂ i₂) fun fl s₃ ⟨y₃, w⟩ => ⟨y₂.trans y₃, w⟩

/-- the inner loop of a comprehension with two -/
noncomputable abbrev inner (e : Expr) (d : Nat) (iter : Expr) : Env → Value → Sem Unit := fun env acc => do
  let x ← eval iter env
  standAt iter.pos
  let x ← foldedSetIterable iter env x
  let _ ← runOwn (.compStart e d (← holding [x] (pyIter x)) acc env) env
theorem Tl.inner {elt t iter : Expr} {gens : List Comprehension} {sc : Scope} {cp : Pos} {ifs : List Expr} {d : Nat} {tail : Env → Value → Sem Unit} {items outs : List D} (hg : gens[d]? = some ⟨t, iter, ifs, 0⟩)
    (hi : ItE C (n + 1) nm Γ iter items) (his : Itms C (n + 1) nm t ifs tail Γ items outs)
    (hturn : ∀ it acc env, compTurn (.ListComp elt gens sc cp) d it acc env = turnForm t iter ifs tail (.compLoop (.ListComp elt gens sc cp) d it acc env) it acc env)
    (hs : ∀ env x, foldedSetIterable iter env x = pure x) : Tl C (n + 1) nm (inner (.ListComp elt gens sc cp) d iter) Γ outs := fun F A s acc pre vs q a f ho hm hl hp hz => by
  refine wpAny_bind (bot_mono (hi.go F A s q a f) fun x s₁ hx => wpAny_bind (wpAny_standAt (wpAny_bind (wpAny_of_eq (hs _ x) (wpAny_bind (wpAny_holding (bot_mono hx fun it s₂ ⟨b, Z, gs, W, g⟩ => ?_)))))))
  rw [g.eq]
  have hb : ∀ c, Z c → C.h₀.get? c = none := fun c hc => base_none f.wd (g.new c hc)
  refine wpAny_bind (wpAny_runOwn (comp_start hg (g.isit.self _ _ A _ g.w) (codeAny_mono (comp_loop g.isit q a hb ho hm hturn items outs pre vs s₂ his (f.step g.step) g.w (hl.at fun o e => g.step.all _ o e) (hp.stepN g.step) hz) fun r s₃ ⟨st, e, f₃, vs', hl₃, hp₃⟩ => ?_)))
  subst e
  refine wpAny_pure ⟨st.drop g.step.non (fun c o nc e q => nc q) g.new g.gens, f₃, vs', hl₃, hp₃⟩
end Mine
namespace Mine
open PySem PySem.Calls PyProof.Rows PySem.W
variable {C : Cx} {n : Nat} {nm : Names} {Γ : Gam}

theorem letgo_ok {A : Around} {s : Shared} {M : Model} {t : Expr} {a : Addr} {v : Value} {o : Obj} {T : String} (ho : s.heap.get? a = some o) (hc : o.cls = .type T)
    (hT : (["enumerate", "zip", "dict_itemiterator", "dict_reverseitemiterator", "odict_iterator", "itertools.zip_longest", "itertools.pairwise"] : List String).contains T = false) :
    wpAny M A (letOwnedTupleGo t (.ref a) v) (fun _ s' => s' = s) Bot s := by
  unfold letOwnedTupleGo
  have key : wpAny M A (do
      let (.ref r, .ref b) := (Value.ref a, v) | return
      let o ← load r
      match o.cls, o.data with
      | .type n, .fields vs =>
        if ["enumerate", "zip", "dict_itemiterator", "dict_reverseitemiterator", "odict_iterator", "itertools.zip_longest", "itertools.pairwise"].contains n && vs[0]? == some (rawInt b) then
          rule "for.unpacks-the-owned-tuple"
          updateField r 0 .none
      | _, _ => pure ()) (fun _ s' => s' = s) Bot s := by
    cases v <;> first | exact wpAny_pure rfl | skip
    refine wpAny_bind (wpAny_load ho ?_)
    rw [hc]
    cases o.data <;> first | exact wpAny_pure rfl | skip
    simp only [hT, Bool.false_and, Bool.false_eq_true, if_false]
    exact wpAny_pure rfl
  split <;> first | exact key | exact wpAny_pure rfl

theorem sq_fl {o : Obj} (h : Mine.sq o = true) : fl o = false := by
  unfold Mine.sq at h; unfold fl
  split at h
  · rename_i e; rw [e]
  · cases h
theorem Heap.ExtBut.step' {s : Shared} {a : Addr} {h' : Heap} {t : Nat} {own : Own} {gs : Nat → Prop} (he : Heap.ExtBut a s.heap h') {o : Obj} (ho : s.heap.get? a = some o) (hf : fl o = true) (hn : ¬ own a) (ht : s.toks ≤ t := by first | exact Nat.le_refl _ | exact Nat.le_succ _ | assumption | (simp; done) | omega) : StepI own (fun b => b = a) gs s { s with heap := h', toks := t } :=
  ⟨fun b o n e => he b o n e, fun b o' q e => he b o' (fun z => by rw [z, ho] at e; cases e; have := sq_fl q; rw [hf] at this; cases this) e, fun b o' q e => he b o' (fun z => hn (z ▸ q)) e,
    rfl, fun _ _ _ e => e, id, ht⟩
theorem fl_of {o : Obj} {vs : Array Value} (h : o.data = .fields vs) : fl o = true := by unfold fl; rw [h]

theorem reps_drop {h : Heap} {own : Own} {d : D} {l : List D} {vs : List Value} {i : Nat} (x : Reps h own (d :: l) (vs.drop i)) : ∃ v, vs[i]? = some v ∧ Rep h own d v ∧ Reps h own l (vs.drop (i + 1)) := by
  obtain ⟨v, r, e, h1, h2⟩ := x
  have hi : vs[i]? = some v := by
    have : (vs.drop i)[0]? = some v := by rw [e]; rfl
    rwa [List.getElem?_drop, Nat.add_zero] at this
  refine ⟨v, hi, h1, ?_⟩
  have : vs.drop (i + 1) = r := by
    have h3 : (vs.drop i).drop 1 = r := by rw [e]; rfl
    first | rwa [List.drop_drop, Nat.add_comm] at h3 | (rw [List.drop_drop] at h3; rw [← h3]; congr 1) | (rw [List.drop_drop, Nat.add_comm] at h3; rw [← h3]; congr 1; omega)
  rw [this]; exact h2
theorem reps_drop_nil {h : Heap} {own : Own} {vs : List Value} {i : Nat} (x : Reps h own [] (vs.drop i)) : vs.toArray[i]? = none := by
  have : vs.drop i = [] := x
  rw [List.drop_eq_nil_iff] at this
  simpa using this

/-- a list's iterator -/
noncomputable def WL (a li : Addr) (own : Own) (l : List D) (s : Shared) : Prop := ∃ vs i, s.heap.IsListIter a li i ∧ PLst s.heap li vs ∧ ¬ own li ∧ Reps s.heap own l (vs.drop i) ∧ ¬ own a
theorem isIt_list (a li : Addr) : IsIt C n a (fun b => b = a) (fun _ => False) (WL a li) where
  ext := by
    rintro own own' l s ⟨vs, i, h1, h2, h3, h4, h5⟩ k
    have nf : ∀ b o, ¬ own b → s.heap.get? b = some o → ¬ own' b := fun b o n e q => (k b q).elim n fun z => by rw [z] at e; cases e
    obtain ⟨m, e⟩ := id h2
    obtain ⟨oa, ea, _⟩ := id h1
    exact ⟨vs, i, h1, h2, nf _ _ h3 e, h4.mono (fun b o n _ e => ⟨nf b o n e, e⟩) l, nf _ _ h5 ea⟩
  st := by
    rintro own l s s' mt ⟨vs, i, ⟨o, h0, h1⟩, h2, h3, h4, h5⟩ y k
    exact ⟨vs, i, ⟨o, y.keep _ _ (fun q => h5 (k _ q)) h0, h1⟩, h2.at fun o e => y.keep _ _ (fun q => h3 (k _ q)) e, h3, h4.step y k, h5⟩
  self := by
    rintro own l A s ⟨vs, i, h1, h2, h3, h4, _⟩
    exact wpAny_pyIter_listiter h1 ⟨rfl, rfl⟩
  letgo := by
    rintro own l A s t v ⟨vs, i, ⟨o, h0, h1, _⟩, _⟩
    exact letgo_ok h0 h1 (by decide)
  next := by
    rintro own d l A s ak _ w ⟨vs, i, h1, h2, h3, h4, hna⟩
    obtain ⟨v, e, h5, h6⟩ := reps_drop h4
    refine wpAny_pyNext_list_item h1 h2.is (x := v) (by simpa using e) fun h' hi hs => ?_
    obtain ⟨o, h0, _, h0'⟩ := id h1
    have y : StepI own (fun b => b = a) (fun _ => False) s { s with heap := h' } := Heap.ExtBut.step' hs.extBut h0 (fl_of h0') hna
    exact ⟨v, rfl, y, h5.stepI y, vs, i + 1, hi, let ⟨m, z⟩ := h2; ⟨m, y.seq _ _ rfl z⟩, h3, h6.stepI y, hna⟩
  done := by
    rintro own A s ak _ w ⟨vs, i, h1, h2, h3, h4, hna⟩
    obtain ⟨o, h0, _, h0'⟩ := id h1
    exact wpAny_pyNext_list_end ak.handled h1 h2.is (reps_drop_nil h4) fun h' he => ⟨rfl, Heap.ExtBut.step' he h0 (fl_of h0') hna⟩
theorem ItE.lst {e : Expr} {ds : List D} (h : Ev C n nm Γ e (.lst ds)) : ItE C n nm Γ e ds := .mk fun F A s q a f => by
  refine bot_mono (h.go F A s q a f) fun v s₁ ⟨y, li, vs, e, no, hl, hr⟩ => ?_
  subst e
  refine wpAny_pyIter_list hl.is ?_
  have y₂ : Step No s₁ { s₁ with heap := s₁.heap.push { cls := .type "list_iterator", data := .fields #[.ref li, .int 0 0] } } := .push (t := s₁.toks)
  refine ⟨s₁.heap.objs.size, fun b => b = s₁.heap.objs.size, fun _ => False, WL s₁.heap.objs.size li, y.trans y₂, rfl, ?_, fun _ => False.elim, isIt_list _ _, vs, 0, ⟨_, Heap.get?_push_size _ rfl, rfl, rfl⟩, hl.at fun o e => y₂.all _ o e, no, by simpa using hr.stepN y₂, (f.step y).wd.new⟩
  rintro _ rfl
  cases z : s.heap.get? s₁.heap.objs.size with
  | none => rfl
  | some o => have := y.all _ _ z; rw [fresh_none] at this; cases this

/-- a tuple's iterator -/
noncomputable def WT (a li : Addr) (own : Own) (l : List D) (s : Shared) : Prop := ∃ vs i, s.heap.IsTupleIter a li i ∧ PTup s.heap li vs ∧ ¬ own li ∧ Reps s.heap own l (vs.drop i) ∧ ¬ own a
theorem isIt_tuple (a li : Addr) : IsIt C n a (fun b => b = a) (fun _ => False) (WT a li) where
  ext := by
    rintro own own' l s ⟨vs, i, h1, h2, h3, h4, h5⟩ k
    have nf : ∀ b o, ¬ own b → s.heap.get? b = some o → ¬ own' b := fun b o n e q => (k b q).elim n fun z => by rw [z] at e; cases e
    obtain ⟨m, e⟩ := id h2
    obtain ⟨oa, ea, _⟩ := id h1
    exact ⟨vs, i, h1, h2, nf _ _ h3 e, h4.mono (fun b o n _ e => ⟨nf b o n e, e⟩) l, nf _ _ h5 ea⟩
  st := by
    rintro own l s s' mt ⟨vs, i, ⟨o, h0, h1⟩, h2, h3, h4, h5⟩ y k
    exact ⟨vs, i, ⟨o, y.keep _ _ (fun q => h5 (k _ q)) h0, h1⟩, h2.at fun o e => y.keep _ _ (fun q => h3 (k _ q)) e, h3, h4.step y k, h5⟩
  self := by
    rintro own l A s ⟨vs, i, h1, h2, h3, h4, _⟩
    refine wpAny_pyIter_slot h1.typeIs F.slot_tuple_iterator_iter (wpAny_call_entry F.slot_tuple_iterator_iter h1.typeIs F.entry_tuple_iterator_iter ?_ (F.args_tuple_iterator_iter_1 _))
    show wpAny _ _ (ret (.ref a)) _ _ s
    exact wpAny_pure ⟨_, rfl, "tuple_iterator", _, h1.typeIs, F.slot_tuple_iterator_next.lookup, rfl, rfl⟩
  letgo := by
    rintro own l A s t v ⟨vs, i, ⟨o, h0, h1, _⟩, _⟩
    exact letgo_ok h0 h1 (by decide)
  next := by
    rintro own d l A s ak _ w ⟨vs, i, h1, h2, h3, h4, hna⟩
    obtain ⟨v, e, h5, h6⟩ := reps_drop h4
    refine wpAny_pyNext_tuple_item h1 h2.is (x := v) (by simpa using e) fun h' hi hs => ?_
    obtain ⟨o, h0, _, h0'⟩ := id h1
    have y : StepI own (fun b => b = a) (fun _ => False) s { s with heap := h' } := Heap.ExtBut.step' hs.extBut h0 (fl_of h0') hna
    exact ⟨v, rfl, y, h5.stepI y, vs, i + 1, hi, let ⟨m, z⟩ := h2; ⟨m, y.seq _ _ rfl z⟩, h3, h6.stepI y, hna⟩
  done := by
    rintro own A s ak _ w ⟨vs, i, h1, h2, h3, h4, hna⟩
    obtain ⟨o, h0, _, h0'⟩ := id h1
    exact wpAny_pyNext_tuple_end ak.handled h1 h2.is (reps_drop_nil h4) fun h' he => ⟨rfl, Heap.ExtBut.step' he h0 (fl_of h0') hna⟩
theorem ItE.tup {e : Expr} {ds : List D} (h : Ev C n nm Γ e (.tup ds)) : ItE C n nm Γ e ds := .mk fun F A s q a f => by
  refine bot_mono (h.go F A s q a f) fun v s₁ ⟨y, li, vs, e, no, hl, hr⟩ => ?_
  subst e
  refine wpAny_pyIter_tuple hl.is ?_
  have y₂ : Step No s₁ { s₁ with heap := s₁.heap.push { cls := .type "tuple_iterator", data := .fields #[.ref li, .int 0 0] } } := .push (t := s₁.toks)
  refine ⟨s₁.heap.objs.size, fun b => b = s₁.heap.objs.size, fun _ => False, WT s₁.heap.objs.size li, y.trans y₂, rfl, ?_, fun _ => False.elim, isIt_tuple _ _, vs, 0, ⟨_, Heap.get?_push_size _ rfl, rfl, rfl⟩, hl.at fun o e => y₂.all _ o e, no, by simpa using hr.stepN y₂, (f.step y).wd.new⟩
  rintro _ rfl
  cases z : s.heap.get? s₁.heap.objs.size with
  | none => rfl
  | some o => have := y.all _ _ z; rw [fresh_none] at this; cases this

/-- a range's iterator -/
noncomputable def upFrom (a : Int) : Nat → List D
  | 0 => []
  | k + 1 => .int a :: upFrom (a + 1) k
noncomputable def WR (a : Addr) (own : Own) (l : List D) (s : Shared) : Prop := ¬ own a ∧ ∃ (x : Int) (k : Nat), l = upFrom x k ∧ IsRangeIter s.heap a x k 1
theorem isIt_range (a : Addr) : IsIt C n a (fun b => b = a) (fun _ => False) (WR a) where
  ext := by
    rintro own own' l s ⟨hna, x, k, h1, h2⟩ q
    exact ⟨fun z => (q a z).elim hna fun e => (by have h2 : s.heap.get? a = some _ := h2; rw [e] at h2; cases h2), x, k, h1, h2⟩
  st := by
    rintro own l s s' mt ⟨hna, x, k, h1, h2⟩ y kk
    exact ⟨hna, x, k, h1, y.keep _ _ (fun q => hna (kk _ q)) h2⟩
  self := by
    rintro own l A s ⟨_, x, k, h1, h2⟩
    have hT : s.TypeIs (.ref a) "range_iterator" := ⟨_, h2, rfl⟩
    refine wpAny_pyIter_slot hT F.slot_range_iterator_iter (wpAny_call_entry F.slot_range_iterator_iter hT F.entry_range_iterator_iter ?_ (F.args_range_iterator_iter_1 _))
    show wpAny _ _ (ret (.ref a)) _ _ s
    exact wpAny_pure ⟨_, rfl, "range_iterator", _, hT, F.slot_range_iterator_next.lookup, rfl, rfl⟩
  letgo := by
    rintro own l A s t v ⟨_, x, k, h1, h2⟩
    exact letgo_ok h2 rfl (by decide)
  next := by
    rintro own d l A s ak _ w ⟨hna, x, k, h1, h2⟩
    cases k with
    | zero => cases h1
    | succ k =>
      cases h1
      refine wpAny_pyNext_range_item h2 (by omega) fun h' hi hs => ?_
      have y : StepI own (fun b => b = a) (fun _ => False) s { s with heap := h', toks := s.toks + 1 } := Heap.ExtBut.step' hs.extBut h2 rfl hna
      exact ⟨_, rfl, y, ⟨_, rfl⟩, hna, x + 1, k, rfl, by
        have e : ((k + 1 : Nat) : Int) - 1 = (k : Nat) := by omega
        rw [e] at hi; exact hi⟩
  done := by
    rintro own A s ak _ w ⟨hna, x, k, h1, h2⟩
    cases k with
    | zero => exact wpAny_pyNext_range_end ak.handled h2 (by omega) fun h' he => ⟨rfl, Heap.ExtBut.step' he h2 rfl hna⟩
    | succ k => cases h1
theorem range_iter {F : Fr1} {A : Around} {s s₁ : Shared} {r : Addr} {a b : Int} {t u v : Tok} (f : Fm C F Γ s) (y : Step No s s₁) (hr : IsRange s₁.heap r a b 1 t u v) (ha : -(2 ^ 62) ≤ a) (ha' : a < 2 ^ 62) (hb : -(2 ^ 62) ≤ b) (hb' : b < 2 ^ 62) :
    wpAny (model C.prog C.w) A (pyIter (.ref r)) (fun it s₂ => ∃ a' Z gs W, Got C n F.own (upFrom a (b - a).toNat) s it s₂ a' Z gs W) Bot s₁ := by
  refine wpAny_pyIter_range hr (small_one ha ha' hb hb') ?_
  have y₂ : Step No s₁ { s₁ with heap := s₁.heap.push { cls := .type "range_iterator", data := .fields #[rawInt a, rawInt (Builtin.Range.rangeSize a b 1), rawInt 1] } } := .push (t := s₁.toks)
  refine ⟨s₁.heap.objs.size, fun b => b = s₁.heap.objs.size, fun _ => False, WR s₁.heap.objs.size, y.trans y₂, rfl, ?_, fun _ => False.elim, isIt_range _, (f.step y).wd.new, a, (b - a).toNat, rfl, ?_⟩
  · rintro _ rfl
    cases z : s.heap.get? s₁.heap.objs.size with
    | none => rfl
    | some o => have := y.all _ _ z; rw [fresh_none] at this; cases this
  · have e : Builtin.Range.rangeSize a b 1 = ((b - a).toNat : Nat) := by rw [rangeSize_one]; split <;> omega
    rw [e]; exact Heap.get?_push_size _ rfl
theorem bi_range : bootBuiltins ("range" : Str) = some (.type "range") := by decide +kernel
theorem ItE.rng1 {p p' : Pos} {e : Expr} {k : Int} (hx : Ev C n nm Γ (.Name ("range" : Str) p') (.raw (.type "range"))) (h : Evs C n nm Γ [e] [.int k]) (hk : k < 2 ^ 62) (hk' : -(2 ^ 62) ≤ k)
    (he : ∀ env, starEach [e] env = (false, eval e env) :: starEach [] env) : ItE C n nm Γ (.Call (.Name ("range" : Str) p') [e] [] p) (upFrom 0 k.toNat) := .mk fun F A s q a f => by
  show wpAny _ _ (eval (.Name _ p') F.env >>= fun fv => callWith p fv [] (backTo p (starEach [e] F.env)) (backToKw p (keywordEach [] F.env))) _ _ s
  refine wpAny_bind (bot_mono (hx.go F A s q a f) fun v s₁ ⟨y, z⟩ => ?_)
  cases z
  refine PyProof.Rows.callWith_type1 (bot_mono (h.go F A s₁ p q a (f.step y)) fun vs s₂ ⟨y₂, hr⟩ => ?_) (he _)
  obtain ⟨v, r, rfl, ⟨t, rfl⟩, hr⟩ := hr
  cases hr
  refine call_range_1 ?_
  have y₃ : Step No s₂ { s₂ with heap := s₂.heap.push { cls := .type "range", data := .fields #[.int 0 s₂.toks, .int k t, .int 1 (s₂.toks + 1)] }, toks := s₂.toks + 1 + 1 } := .push
  have := range_iter (C := C) (n := n) (F := F) (A := A) f ((y.trans y₂).trans y₃) (IsRange.new s₂.heap 0 k 1 s₂.toks t (s₂.toks + 1)) (by decide) (by decide) hk' hk
  rwa [Int.sub_zero] at this
theorem ItE.rng2 {p p' : Pos} {e e' : Expr} {j k : Int} (hx : Ev C n nm Γ (.Name ("range" : Str) p') (.raw (.type "range"))) (h : Evs C n nm Γ [e, e'] [.int j, .int k]) (hj : j < 2 ^ 62) (hj' : -(2 ^ 62) ≤ j) (hk : k < 2 ^ 62) (hk' : -(2 ^ 62) ≤ k)
    (he : ∀ env, starEach [e, e'] env = (false, eval e env) :: starEach [e'] env) (hp : ∀ env, (backTo p (starEach [e'] env)).any (·.1) = false) : ItE C n nm Γ (.Call (.Name ("range" : Str) p') [e, e'] [] p) (upFrom j (k - j).toNat) := .mk fun F A s q a f => by
  show wpAny _ _ (eval (.Name _ p') F.env >>= fun fv => callWith p fv [] (backTo p (starEach [e, e'] F.env)) (backToKw p (keywordEach [] F.env))) _ _ s
  refine wpAny_bind (bot_mono (hx.go F A s q a f) fun v s₁ ⟨y, z⟩ => ?_)
  cases z
  refine PyProof.Rows.callWith_type1 (bot_mono (h.go F A s₁ p q a (f.step y)) fun vs s₂ ⟨y₂, hr⟩ => ?_) (he _) (hp _)
  obtain ⟨v, r, rfl, ⟨t, rfl⟩, v', r', rfl, ⟨t', rfl⟩, hr⟩ := hr
  cases hr
  refine call_range_2 ?_
  have y₃ : Step No s₂ { s₂ with heap := s₂.heap.push { cls := .type "range", data := .fields #[.int j t, .int k t', .int 1 s₂.toks] }, toks := s₂.toks + 1 } := .push
  exact range_iter (C := C) (n := n) (F := F) (A := A) f ((y.trans y₂).trans y₃) (IsRange.new s₂.heap j k 1 t t' s₂.toks) hj' hj hk' hk
end Mine
namespace Mine
open PySem PySem.Calls PyProof.Rows PySem.W
variable {C : Cx} {n : Nat} {nm : Names} {Γ : Gam}

/-! whole numbers -/
theorem Op2.addi {a b : Int} : Op2 C .Add (.int a) (.int b) (.int (a + b)) := by
  rintro A s own _ _ _ _ ⟨t, rfl⟩ ⟨u, rfl⟩; exact add_int ⟨.toks, _, rfl⟩
theorem Op2.subi {a b : Int} : Op2 C .Sub (.int a) (.int b) (.int (a - b)) := by
  rintro A s own _ _ _ _ ⟨t, rfl⟩ ⟨u, rfl⟩; exact sub_int ⟨.toks, _, rfl⟩
theorem Op2.muli {a b : Int} (h : (-(2 ^ 64) < a ∧ a < 2 ^ 64) ∨ (-(2 ^ 64) < b ∧ b < 2 ^ 64)) : Op2 C .Mult (.int a) (.int b) (.int (a * b)) := by
  rintro A s own _ _ _ _ ⟨t, rfl⟩ ⟨u, rfl⟩
  exact mul_int ⟨.toks, _, rfl⟩ (h.elim (fun h => IntMulOk.of_left (intBits_le_64 h.1 h.2)) fun h => IntMulOk.of_right (intBits_le_64 h.1 h.2))
theorem Op2.modi {a b : Int} (h : b ≠ 0) : Op2 C .Mod (.int a) (.int b) (.int (a.fmod b)) := by
  rintro A s own _ _ _ _ ⟨t, rfl⟩ ⟨u, rfl⟩; exact mod_int h ⟨.toks, _, rfl⟩
theorem Op2.divi {a b : Int} (h : b ≠ 0) (k : b.natAbs < 1073741824) : Op2 C .FloorDiv (.int a) (.int b) (.int (a.fdiv b)) := by
  rintro A s own _ _ _ _ ⟨t, rfl⟩ ⟨u, rfl⟩; exact floordiv_int h ⟨.toks, _, rfl⟩ (.inl (PyProof.noPylong_small k))
/-- a / b of whole numbers -/
noncomputable def ratio (a b : Int) : UInt64 := Float64.ofFrac (decide (a < 0) != decide (b < 0)) a.natAbs b.natAbs
theorem Op2.trui {a b : Int} (h : b ≠ 0) (k : Float64.isInf (ratio a b) = false) : Op2 C.up .Div (.int a) (.int b) (.flt (ratio a b)) := by
  rintro A s own _ _ _ w ⟨t, rfl⟩ ⟨u, rfl⟩
  exact AutoIntOps.truediv_2 (by simpa using h) (by rw [show Float64.ofFrac (decide (a < 0) != decide (b < 0)) a.natAbs b.natAbs = ratio a b from rfl, k]; decide) ⟨.toks, _, rfl, Nat.ne_of_gt (show 0 < _ from w.pos)⟩
theorem Iop.addi {a b : Int} : Iop C .Add (.int a) (.int b) (.int (a + b)) := by
  rintro A s own _ _ _ _ ⟨t, rfl⟩ ⟨u, rfl⟩; exact iadd_int ⟨.toks, _, rfl⟩
theorem Iop.subi {a b : Int} : Iop C .Sub (.int a) (.int b) (.int (a - b)) := by
  rintro A s own _ _ _ _ ⟨t, rfl⟩ ⟨u, rfl⟩; exact isub_int ⟨.toks, _, rfl⟩
theorem Cmp.eqi {a b : Int} : Cmp C .Eq (.int a) (.int b) (a == b) := by
  rintro A s own _ _ _ _ ⟨t, rfl⟩ ⟨u, rfl⟩; exact eq_int ⟨.refl .., rfl⟩
theorem Cmp.nei {a b : Int} : Cmp C .NotEq (.int a) (.int b) (a != b) := by
  rintro A s own _ _ _ _ ⟨t, rfl⟩ ⟨u, rfl⟩; exact ne_int ⟨.refl .., rfl⟩
theorem Cmp.lti {a b : Int} : Cmp C .Lt (.int a) (.int b) (decide (a < b)) := by
  rintro A s own _ _ _ _ ⟨t, rfl⟩ ⟨u, rfl⟩; exact lt_int ⟨.refl .., rfl⟩
theorem Cmp.lei {a b : Int} : Cmp C .LtE (.int a) (.int b) (decide (a ≤ b)) := by
  rintro A s own _ _ _ _ ⟨t, rfl⟩ ⟨u, rfl⟩; exact le_int ⟨.refl .., rfl⟩
theorem Cmp.gei {a b : Int} : Cmp C .GtE (.int a) (.int b) (decide (b ≤ a)) := by
  rintro A s own _ _ _ _ ⟨t, rfl⟩ ⟨u, rfl⟩; exact ge_int ⟨.refl .., rfl⟩
theorem Tru.int {i : Int} : Tru C (.int i) (i != 0) := by
  rintro A s own _ _ _ ⟨t, rfl⟩; exact truthy_int ⟨.refl .., rfl⟩

/-! floats -/
theorem Op2.addf {a b : UInt64} : Op2 C.up .Add (.flt a) (.flt b) (.flt (Float64.add a b)) := by
  rintro A s own _ _ _ w ⟨t, rfl, _⟩ ⟨u, rfl, _⟩; exact add_float ⟨.toks, _, rfl, Nat.ne_of_gt (show 0 < _ from w.pos)⟩
theorem Op2.subf {a b : UInt64} : Op2 C.up .Sub (.flt a) (.flt b) (.flt (Float64.sub a b)) := by
  rintro A s own _ _ _ w ⟨t, rfl, _⟩ ⟨u, rfl, _⟩; exact sub_float ⟨.toks, _, rfl, Nat.ne_of_gt (show 0 < _ from w.pos)⟩
theorem Op2.mulf {a b : UInt64} : Op2 C.up .Mult (.flt a) (.flt b) (.flt (Float64.mul a b)) := by
  rintro A s own _ _ _ w ⟨t, rfl, _⟩ ⟨u, rfl, _⟩; exact mul_float ⟨.toks, _, rfl, Nat.ne_of_gt (show 0 < _ from w.pos)⟩
theorem Op2.divf {a b : UInt64} (h : Float64.isZero b = false) : Op2 C.up .Div (.flt a) (.flt b) (.flt (Float64.div a b)) := by
  rintro A s own _ _ _ w ⟨t, rfl, _⟩ ⟨u, rfl, _⟩; exact AutoFloatOps.truediv_1 (by rw [h]; decide) ⟨.toks, _, rfl, Nat.ne_of_gt (show 0 < _ from w.pos)⟩
theorem Op2.modf {a b : UInt64} (h : Float64.isZero b = false) : Op2 C.up .Mod (.flt a) (.flt b) (.flt (Float64.divmod a b).2) := by
  rintro A s own _ _ _ w ⟨t, rfl, _⟩ ⟨u, rfl, _⟩; exact AutoFloatOps.mod_1 (by rw [h]; decide) ⟨.toks, _, rfl, Nat.ne_of_gt (show 0 < _ from w.pos)⟩
theorem fit_1023 {i : Int} (h : -1000000 < i ∧ i < 1000000) : i.natAbs < 2 ^ 1023 := by
  have : (2 : Nat) ^ 1023 = 2 ^ 1003 * 1048576 := by decide +kernel
  have : 1 ≤ (2 : Nat) ^ 1003 := Nat.one_le_two_pow
  omega
theorem Op2.subfi {a : UInt64} {i : Int} (h : -1000000 < i ∧ i < 1000000) : Op2 C.up .Sub (.flt a) (.int i) (.flt (Float64.sub a (Float64.ofInt i))) := by
  rintro A s own _ _ _ w ⟨t, rfl, _⟩ ⟨u, rfl⟩; exact sub_fi_fits (fit_1023 h) ⟨.toks, _, rfl, Nat.ne_of_gt (show 0 < _ from w.pos)⟩
theorem Op2.mulfi {a : UInt64} {i : Int} (h : -1000000 < i ∧ i < 1000000) : Op2 C.up .Mult (.flt a) (.int i) (.flt (Float64.mul a (Float64.ofInt i))) := by
  rintro A s own _ _ _ w ⟨t, rfl, _⟩ ⟨u, rfl⟩; exact mul_fi_fits (fit_1023 h) ⟨.toks, _, rfl, Nat.ne_of_gt (show 0 < _ from w.pos)⟩
theorem Op2.divfi {a : UInt64} {i : Int} (h : Float64.isInf (Float64.ofInt i) = false) (k : Float64.isZero (Float64.ofInt i) = false) : Op2 C.up .Div (.flt a) (.int i) (.flt (Float64.div a (Float64.ofInt i))) := by
  rintro A s own _ _ _ w ⟨t, rfl, _⟩ ⟨u, rfl⟩; exact AutoFloatOps.truediv_fi_2 (by rw [h]; decide) (by rw [k]; decide) ⟨.toks, _, rfl, Nat.ne_of_gt (show 0 < _ from w.pos)⟩
theorem Cmp.eqf {a b : UInt64} : Cmp C .Eq (.flt a) (.flt b) (Float64.cmp a b == some .eq) := by
  rintro A s own _ _ _ _ ⟨t, rfl, _⟩ ⟨u, rfl, _⟩; exact AutoFloatOps.eq_0 ⟨.refl .., rfl⟩
theorem Cmp.lef {a b : UInt64} : Cmp C .LtE (.flt a) (.flt b) (Float64.cmp a b == some .lt || Float64.cmp a b == some .eq) := by
  rintro A s own _ _ _ _ ⟨t, rfl, _⟩ ⟨u, rfl, _⟩; exact AutoFloatOps.le_0 ⟨.refl .., rfl⟩
/-! is None -/
noncomputable def D.isNone : D → Bool
  | .none => true
  | _ => false
theorem Cmp.isn {d : D} (h : ∀ w, d ≠ .raw w) : Cmp C .Is d .none d.isNone := by
  rintro A s own v _ _ _ x rfl
  refine is_none ⟨.refl .., ?_⟩
  have : (v == Value.none) = d.isNone := by
    cases d with
    | none => cases x; rfl
    | raw w => exact absurd rfl (h w)
    | bool b => cases x; cases b <;> rfl
    | int i => obtain ⟨t, rfl⟩ := x; rfl
    | flt i => obtain ⟨t, rfl, _⟩ := x; rfl
    | str i => obtain ⟨t, rfl⟩ := x; rfl
    | byt i => obtain ⟨t, rfl⟩ := x; rfl
    | tup l => obtain ⟨a, vs, rfl, _⟩ := x; rfl
    | lst l => obtain ⟨a, vs, rfl, _⟩ := x; rfl
  rw [this]
/-! texts -/
theorem Op2.adds {x y : Str} (h : x.length + y.length ≤ sizeLine) : Op2 C .Add (.str x) (.str y) (.str (x ++ y)) := by
  rintro A s own _ _ _ _ ⟨t, rfl⟩ ⟨u, rfl⟩; exact wpAny_with_toks (Nat.le_refl _) (add_str (fun t' tk ht => ⟨.toks, _, rfl⟩) h)
/-! lists -/
theorem Op2.addl {l r : List D} (h : l.length + r.length ≤ sizeLine) : Op2 C .Add (.lst l) (.lst r) (.lst (l ++ r)) := by
  rintro A s own _ _ _ w ⟨a, vs, rfl, no, ⟨m, hl⟩, hr⟩ ⟨b, ws, rfl, no', ⟨m', hl'⟩, hr'⟩
  refine P.add_list hl hl' ⟨.push (t := s.toks), _, vs ++ ws, rfl, w.new, ⟨0, by rw [← List.toArray_appendList] <;> first | exact Heap.get?_push_size _ rfl | simpa using Heap.get?_push_size _ rfl⟩, ?_⟩ (by simp [hr.length, hr'.length]; omega)
  exact (hr.append hr').stepN (.push (t := s.toks))
/-! items -/
theorem Ev.subl {e i : Expr} {p : Pos} {l : List D} {k : Int} {d : D} (h : Ev C (n + 1) nm Γ e (.lst l)) (g : Ev C (n + 1) nm Γ i (.int k)) (k0 : 0 ≤ k) (k1 : l[k.toNat]? = some d) (kz : l.length < 2 ^ 62)
    (hs : ∀ o j, subscripted i false o j = operate [o, j] (getItem o j)) : Ev C (n + 1) nm Γ (.Subscript e i p) d := .mk fun F A s q a f => by
  refine Subscript_ (bot_mono (h.go F A s q a f) fun v s₁ ⟨y, z⟩ => bot_mono (g.go F A s₁ q a (f.step y)) fun j s₂ ⟨y₂, z₂⟩ => ?_)
  obtain ⟨t, rfl⟩ := z₂
  obtain ⟨b, vs, rfl, no, hl, hr⟩ := z.stepN y₂
  obtain ⟨v, e1, e2⟩ := hr.get k1
  have hlt : k.toNat < l.length := by
    rcases Nat.lt_or_ge k.toNat l.length with h | h
    · exact h
    · rw [List.getElem?_eq_none h] at k1; cases k1
  exact tail_any hl.is.typeIs slot_list_getitem.lookup (wpAny_getItem_list (x := v) hl.is k0 (by omega) (by simpa using e1) ⟨y.trans y₂, e2⟩) (hs _ _)
theorem Ev.subt {e i : Expr} {p : Pos} {l : List D} {k : Int} {d : D} (h : Ev C (n + 1) nm Γ e (.tup l)) (g : Ev C (n + 1) nm Γ i (.int k)) (k0 : 0 ≤ k) (k1 : l[k.toNat]? = some d) (kz : l.length < 2 ^ 62)
    (hs : ∀ o j, subscripted i false o j = operate [o, j] (getItem o j)) : Ev C (n + 1) nm Γ (.Subscript e i p) d := .mk fun F A s q a f => by
  refine Subscript_ (bot_mono (h.go F A s q a f) fun v s₁ ⟨y, z⟩ => bot_mono (g.go F A s₁ q a (f.step y)) fun j s₂ ⟨y₂, z₂⟩ => ?_)
  obtain ⟨t, rfl⟩ := z₂
  obtain ⟨b, vs, rfl, no, hl, hr⟩ := z.stepN y₂
  obtain ⟨v, e1, e2⟩ := hr.get k1
  have hlt : k.toNat < l.length := by
    rcases Nat.lt_or_ge k.toNat l.length with h | h
    · exact h
    · rw [List.getElem?_eq_none h] at k1; cases k1
  have hlen := hr.length
  have hj : seqIndex? k vs.toArray.size = some k.toNat := by
    unfold seqIndex?
    rw [List.size_toArray, hlen]
    simp only [show ¬ k < 0 by omega, if_false]
    simp; omega
  have h1 : -(2 ^ 63) ≤ k := by omega
  have h2 : k < 2 ^ 63 := by omega
  exact tail_any hl.is'.typeIs slot_tuple_getitem.lookup (PyProof.Rows.getItem_tuple (x := v) (j := k.toNat) hl.is' h1 h2 hj (by simpa using e1) ⟨y.trans y₂, e2⟩) (hs _ _)
end Mine
namespace Mine
open PySem PySem.Calls PyProof.Rows PySem.W PySem.SeqAt
variable {C : Cx} {n : Nat} {nm : Names} {Γ : Gam}

mutual
noncomputable def eqD : D → D → Bool
  | .int a, .int b => a == b
  | .str a, .str b => a == b
  | .byt a, .byt b => a.toList == b.toList
  | .flt a, .flt b => Float64.cmp a b == some .eq
  | .tup l, .tup r => eqDs l r
  | .lst l, .lst r => eqDs l r
  | _, _ => false
noncomputable def eqDs : List D → List D → Bool
  | [], [] => true
  | d :: l, e :: r => eqD d e && eqDs l r
  | _, _ => false
end
mutual
/-- these two can be held against one another -/
noncomputable def okD : D → D → Bool
  | .int _, .int _ => true
  | .str _, .str _ => true
  | .byt _, .byt _ => true
  | .flt a, .flt b => Float64.cmp a b == some .eq
  | .tup l, .tup r => okDs l r
  | .lst l, .lst r => okDs l r
  | _, _ => false
noncomputable def okDs : List D → List D → Bool
  | d :: l, e :: r => okD d e && okDs l r
  | _, _ => true
end
mutual
noncomputable def dep : D → Nat
  | .tup l => deps l + 1
  | .lst l => deps l + 1
  | _ => 0
noncomputable def deps : List D → Nat
  | [] => 0
  | d :: l => max (dep d) (deps l)
end
mutual
noncomputable def noraw : D → Bool
  | .tup l => noraws l
  | .lst l => noraws l
  | .raw _ => false
  | _ => true
noncomputable def noraws : List D → Bool
  | [] => true
  | d :: l => noraw d && noraws l
end

theorem eqDs_len : ∀ (l r : List D), (l.length == r.length) = false → eqDs l r = false
  | [], [], h => by simp at h
  | [], _ :: _, _ => rfl
  | _ :: _, [], _ => rfl
  | d :: l, e :: r, h => by
    have : (l.length == r.length) = false := by simpa using h
    show (eqD d e && eqDs l r) = false
    rw [eqDs_len l r this, Bool.and_false]
theorem eqDs_range : ∀ (l r : List D), l.length = r.length → ((List.range l.length).all fun j => eqD (l.getD j .none) (r.getD j .none)) = eqDs l r
  | [], [], _ => rfl
  | [], _ :: _, h => by simp at h
  | _ :: _, [], h => by simp at h
  | d :: l, e :: r, h => by
    have := eqDs_range l r (by simpa using h)
    rw [List.length_cons, List.range_succ_eq_map, List.all_cons, List.all_map]
    show (eqD d e && _) = (eqD d e && eqDs l r)
    rw [← this]
    rfl

theorem PSeq.inj {h : Heap} {a : Addr} {vs ws : List Value} {c c' : Value} {n m : Nat} (x : h.get? a = some { cls := c, data := .seq vs.toArray n }) (y : h.get? a = some { cls := c', data := .seq ws.toArray m }) : c = c' ∧ vs = ws := by
  rw [x] at y
  have := Option.some.inj y
  injection this with h1 h2 h3 h4
  injection h3 with h5 h6
  exact ⟨h1, by simpa using congrArg Array.toList h5⟩

mutual
theorem rep_eq {h : Heap} {own : Own} : ∀ (d e : D) {v : Value}, okD d e = true → Rep h own d v → Rep h own e v → eqD d e = true
  | .int a, e, v, k, x, y => by
    cases e <;> first | exact absurd k Bool.false_ne_true | skip
    obtain ⟨t, rfl⟩ := x; obtain ⟨u, y⟩ := y; cases y; exact beq_self_eq_true _
  | .str a, e, v, k, x, y => by
    cases e <;> first | exact absurd k Bool.false_ne_true | skip
    obtain ⟨t, rfl⟩ := x; obtain ⟨u, y⟩ := y; cases y; exact beq_self_eq_true _
  | .byt a, e, v, k, x, y => by
    cases e <;> first | exact absurd k Bool.false_ne_true | skip
    obtain ⟨t, rfl⟩ := x; obtain ⟨u, y⟩ := y; cases y; exact beq_self_eq_true _
  | .flt a, e, v, k, x, y => by
    cases e <;> first | exact absurd k Bool.false_ne_true | skip
    exact k
  | .tup l, e, v, k, x, y => by
    cases e <;> first | exact absurd k Bool.false_ne_true | skip
    rename_i r
    obtain ⟨a, vs, rfl, _, ⟨m, p⟩, x⟩ := x; obtain ⟨b, ws, y0, _, ⟨m', p'⟩, y⟩ := y; cases y0
    obtain ⟨_, rfl⟩ := PSeq.inj p p'
    exact reps_eq l r k x y
  | .lst l, e, v, k, x, y => by
    cases e <;> first | exact absurd k Bool.false_ne_true | skip
    rename_i r
    obtain ⟨a, vs, rfl, _, ⟨m, p⟩, x⟩ := x; obtain ⟨b, ws, y0, _, ⟨m', p'⟩, y⟩ := y; cases y0
    obtain ⟨_, rfl⟩ := PSeq.inj p p'
    exact reps_eq l r k x y
  | .none, e, v, k, x, y => by cases e <;> exact absurd k Bool.false_ne_true
  | .bool b, e, v, k, x, y => by cases e <;> exact absurd k Bool.false_ne_true
  | .raw b, e, v, k, x, y => by cases e <;> exact absurd k Bool.false_ne_true
theorem reps_eq {h : Heap} {own : Own} : ∀ (l r : List D) {vs : List Value}, okDs l r = true → Reps h own l vs → Reps h own r vs → eqDs l r = true
  | [], [], _, _, _, _ => rfl
  | [], _ :: _, _, _, x, y => by cases x; obtain ⟨_, _, e, _⟩ := y; cases e
  | _ :: _, [], _, _, x, y => by cases y; obtain ⟨_, _, e, _⟩ := x; cases e
  | d :: l, e :: r, vs, k, x, y => by
    obtain ⟨v, vr, rfl, x1, x2⟩ := x; obtain ⟨w, wr, y0, y1, y2⟩ := y
    cases y0
    replace k : (okD d e && okDs l r) = true := k
    rw [Bool.and_eq_true] at k
    show (eqD d e && eqDs l r) = true
    rw [Bool.and_eq_true]
    exact ⟨rep_eq d e k.1 x1 y1, reps_eq l r k.2 x2 y2⟩
end
mutual
theorem rep_det {h : Heap} {own : Own} : ∀ (d e : D) {v : Value}, noraw d = true → noraw e = true → Rep h own d v → Rep h own e v → d = e
  | .int a, e, v, _, k, x, y => by
    obtain ⟨t, rfl⟩ := x
    cases e <;> first | exact absurd k Bool.false_ne_true | (obtain ⟨_, _, y, _⟩ := y; cases y; done) | (obtain ⟨_, y⟩ := y; cases y; rfl) | (obtain ⟨_, y, _⟩ := y; cases y; rfl) | (obtain ⟨_, y, _⟩ := y; cases y; done) | (obtain ⟨_, y⟩ := y; cases y; done) | (cases y; done) | (cases y; rfl)
  | .str a, e, v, _, k, x, y => by
    obtain ⟨t, rfl⟩ := x
    cases e <;> first | exact absurd k Bool.false_ne_true | (obtain ⟨_, _, y, _⟩ := y; cases y; done) | (obtain ⟨_, y⟩ := y; cases y; rfl) | (obtain ⟨_, y, _⟩ := y; cases y; rfl) | (obtain ⟨_, y, _⟩ := y; cases y; done) | (obtain ⟨_, y⟩ := y; cases y; done) | (cases y; done) | (cases y; rfl)
  | .byt a, e, v, _, k, x, y => by
    obtain ⟨t, rfl⟩ := x
    cases e <;> first | exact absurd k Bool.false_ne_true | (obtain ⟨_, _, y, _⟩ := y; cases y; done) | (obtain ⟨_, y⟩ := y; cases y; rfl) | (obtain ⟨_, y, _⟩ := y; cases y; rfl) | (obtain ⟨_, y, _⟩ := y; cases y; done) | (obtain ⟨_, y⟩ := y; cases y; done) | (cases y; done) | (cases y; rfl)
  | .flt a, e, v, _, k, x, y => by
    obtain ⟨t, rfl, _⟩ := x
    cases e <;> first | exact absurd k Bool.false_ne_true | (obtain ⟨_, _, y, _⟩ := y; cases y; done) | (obtain ⟨_, y⟩ := y; cases y; rfl) | (obtain ⟨_, y, _⟩ := y; cases y; rfl) | (obtain ⟨_, y, _⟩ := y; cases y; done) | (obtain ⟨_, y⟩ := y; cases y; done) | (cases y; done) | (cases y; rfl)
  | .none, e, v, _, k, x, y => by
    cases x
    cases e <;> first | rfl | exact absurd k Bool.false_ne_true | (obtain ⟨_, _, y, _⟩ := y; cases y; done) | (obtain ⟨_, y⟩ := y; cases y; rfl) | (obtain ⟨_, y, _⟩ := y; cases y; rfl) | (obtain ⟨_, y, _⟩ := y; cases y; done) | (obtain ⟨_, y⟩ := y; cases y; done) | (cases y; done) | (cases y; rfl)
  | .bool b, e, v, _, k, x, y => by
    cases x
    cases e <;> first | exact absurd k Bool.false_ne_true | (obtain ⟨_, _, y, _⟩ := y; cases y; done) | (obtain ⟨_, y⟩ := y; cases y; rfl) | (obtain ⟨_, y, _⟩ := y; cases y; rfl) | (obtain ⟨_, y, _⟩ := y; cases y; done) | (obtain ⟨_, y⟩ := y; cases y; done) | (cases y; done) | (cases y; rfl)
  | .raw _, e, v, k, _, x, y => absurd k Bool.false_ne_true
  | .tup l, e, v, k₀, k, x, y => by
    obtain ⟨a, vs, rfl, _, ⟨m, p⟩, x⟩ := x
    cases e <;> first | exact absurd k Bool.false_ne_true | (cases y; done) | (obtain ⟨_, y⟩ := y; cases y; done) | (obtain ⟨_, y, _⟩ := y; cases y; done) | skip
    · obtain ⟨b, ws, y0, _, ⟨m', p'⟩, y⟩ := y; cases y0
      obtain ⟨_, rfl⟩ := PSeq.inj p p'
      exact congrArg D.tup (reps_det l _ k₀ k x y)
    · obtain ⟨b, ws, y0, _, ⟨m', p'⟩, y⟩ := y; cases y0
      have := (PSeq.inj p p').1
      injection this with this
      simp at this
  | .lst l, e, v, k₀, k, x, y => by
    obtain ⟨a, vs, rfl, _, ⟨m, p⟩, x⟩ := x
    cases e <;> first | exact absurd k Bool.false_ne_true | (cases y; done) | (obtain ⟨_, y⟩ := y; cases y; done) | (obtain ⟨_, y, _⟩ := y; cases y; done) | skip
    · obtain ⟨b, ws, y0, _, ⟨m', p'⟩, y⟩ := y; cases y0
      have := (PSeq.inj p p').1
      injection this with this
      simp at this
    · obtain ⟨b, ws, y0, _, ⟨m', p'⟩, y⟩ := y; cases y0
      obtain ⟨_, rfl⟩ := PSeq.inj p p'
      exact congrArg D.lst (reps_det l _ k₀ k x y)
theorem reps_det {h : Heap} {own : Own} : ∀ (l r : List D) {vs : List Value}, noraws l = true → noraws r = true → Reps h own l vs → Reps h own r vs → l = r
  | [], [], _, _, _, _, _ => rfl
  | [], _ :: _, _, _, _, x, y => by cases x; obtain ⟨_, _, e, _⟩ := y; cases e
  | _ :: _, [], _, _, _, x, y => by cases y; obtain ⟨_, _, e, _⟩ := x; cases e
  | d :: l, e :: r, vs, k, k', x, y => by
    obtain ⟨v, vr, rfl, x1, x2⟩ := x; obtain ⟨w, wr, y0, y1, y2⟩ := y
    cases y0
    replace k : (noraw d && noraws l) = true := k
    replace k' : (noraw e && noraws r) = true := k'
    rw [Bool.and_eq_true] at k k'
    rw [rep_det d e k.1 k'.1 x1 y1, reps_det l r k.2 k'.2 x2 y2]
end

theorem RcAt.fltflt {A : Around} {s : Shared} (a : UInt64) (t : Tok) (b : UInt64) (u : Tok) : RcAt A s (.float a t) (.float b u) (Float64.cmp a b == some .eq) := fun prog w E Q h => AutoFloatOps.eq_0 h
theorem RcAt.bytbyt {A : Around} {s : Shared} (a : Array UInt8) (t : Tok) (b : Array UInt8) (u : Tok) : RcAt A s (.bytes a t) (.bytes b u) (a.toList == b.toList) := fun prog w E Q h => by
  show wpAny _ _ (compareOp .Eq _ _) _ _ _
  exact PySem.W.eq_bytes h
theorem EqAt.fltflt {A : Around} {s : Shared} (a : UInt64) (t : Tok) (b : UInt64) (u : Tok) (ht : t ≠ 0) (hu : u ≠ 0) (nb : NoneBooked s.heap) (k : (Float64.cmp a b == some .eq) = true) : EqAt A s (.float a t) (.float b u) true := fun prog w E Q h => by
  unfold eqBool
  refine wpAny_holding ?_
  refine wpAny_ite_split (fun hab => ?_) (fun _ => ?_)
  · exact wpAny_bind (wpAny_rule (wpAny_pure h))
  · have tail : wpAny (model prog w) A (richCompare .Eq (.float a t) (.float b u) >>= fun x => truthOfDropped x) Q E s := by
      have := RcAt.fltflt (A := A) (s := s) a t b u prog w E (fun v s' => wpAny (model prog w) A (truthOfDropped v) Q E s')
      rw [k] at this
      exact wpAny_bind (this (wpAny_truthy_bool h))
    show wpAny _ _ (isSame.created _ t u >>= _) _ _ _
    have fin : ∀ r : Bool, wpAny (model prog w) A (if r = true then pure true else richCompare .Eq (.float a t) (.float b u) >>= fun x => truthOfDropped x) Q E s := fun r => by
      cases r
      · simpa using tail
      · exact wpAny_pure h
    refine wpAny_bind ?_
    unfold isSame.created
    have h0 : (t == 0 || u == 0) = false := by simp [ht, hu]
    refine wpAny_ite ?_
    split
    · rename_i h; rw [h0] at h; exact absurd h Bool.false_ne_true
    refine wpAny_ite ?_
    split
    · exact wpAny_pure (fin true)
    refine wpAny_ite ?_
    split
    · exact wpAny_pure (fin false)
    refine wpAny_bind (wpAny_sharingNotTold_none nb ?_)
    first | rw [if_neg Bool.false_ne_true] | simp only [Bool.false_eq_true, if_false]
    refine wpAny_bind (wpAny_sharingNotTold_none nb ?_)
    first | rw [if_neg Bool.false_ne_true] | simp only [Bool.false_eq_true, if_false]
    exact wpAny_bind (wpAny_rule (wpAny_bind (wpAny_askSetting (wpAny_pure (fin _)))))
theorem EqAt.bytbyt {A : Around} {s : Shared} (a : Array UInt8) (t : Tok) (b : Array UInt8) (u : Tok) : EqAt A s (.bytes a t) (.bytes b u) (a.toList == b.toList) := fun prog w E Q h => by
  unfold eqBool
  refine wpAny_holding ?_
  refine wpAny_ite_split (fun hab => ?_) (fun _ => ?_)
  · have e : a = b := by have := eq_of_beq hab; injection this
    subst e
    exact wpAny_bind (wpAny_rule (wpAny_pure (by simpa using h)))
  · exact wpAny_bind (RcAt.bytbyt a t b u prog w E _ (wpAny_truthy_bool h))

theorem all_range_congr {n : Nat} {f g : Nat → Bool} (h : ∀ j, j < n → f j = g j) : (List.range n).all f = (List.range n).all g := by
  rw [Bool.eq_iff_iff, List.all_eq_true, List.all_eq_true]
  constructor
  · intro k j hj; rw [← h j (List.mem_range.mp hj)]; exact k j hj
  · intro k j hj; rw [h j (List.mem_range.mp hj)]; exact k j hj

theorem rc_tup {A : Around} {s : Shared} {l r : List D} {a b : Addr} {vs ws : List Value} (p : PTup s.heap a vs) (p' : PTup s.heap b ws) (h1 : vs.length = l.length) (h2 : ws.length = r.length) (hu : A.units + (deps l + 1) < cLine)
    (IH : ∀ (j : Nat) (h1 : j < vs.length) (h2 : j < ws.length), EqAt A.in1 s vs[j] ws[j] (eqD (l.getD j .none) (r.getD j .none))) : RcAt A s (.ref a) (.ref b) (eqDs l r) := by
  have key := RcAt.tuples (A := A) (s := s) (e := fun j => eqD (l.getD j .none) (r.getD j .none)) p.is p'.is (by omega) (fun j q1 q2 => by
    simpa using IH j (by simpa using q1) (by simpa using q2))
  have e : ((List.range (min vs.toArray.size ws.toArray.size)).all (fun j => eqD (l.getD j .none) (r.getD j .none)) && vs.toArray.size == ws.toArray.size) = eqDs l r := by
    rw [List.size_toArray, List.size_toArray, h1, h2]
    cases hl : (l.length == r.length) with
    | true => rw [Bool.and_true, ← beq_iff_eq.mp hl, Nat.min_self]; exact eqDs_range l r (beq_iff_eq.mp hl)
    | false => rw [Bool.and_false, eqDs_len l r hl]
  rw [e] at key
  exact key
theorem rc_lst {A : Around} {s : Shared} {l r : List D} {a b : Addr} {vs ws : List Value} (p : PLst s.heap a vs) (p' : PLst s.heap b ws) (h1 : vs.length = l.length) (h2 : ws.length = r.length) (hu : A.units + (deps l + 1) < cLine)
    (IH : ∀ (j : Nat) (h1 : j < vs.length) (h2 : j < ws.length), EqAt A.in1 s vs[j] ws[j] (eqD (l.getD j .none) (r.getD j .none))) : RcAt A s (.ref a) (.ref b) (eqDs l r) := by
  cases hl : (l.length == r.length) with
  | true =>
    have hl := beq_iff_eq.mp hl
    have key := RcAt.lists (A := A) (s := s) (e := fun j => eqD (l.getD j .none) (r.getD j .none)) p.is p'.is (by simp [h1, h2, hl]) (by omega) (fun j q1 q2 => by
      simpa using IH j (by simpa using q1) (by simpa using q2))
    rw [List.size_toArray, h1, eqDs_range l r hl] at key
    exact key
  | false =>
    rw [eqDs_len l r hl]
    exact RcAt.lists_lengths p.is p'.is (by simpa [h1, h2] using hl) (by omega)

mutual
theorem rcAt_of {s : Shared} {own : Own} (nb : NoneBooked s.heap) : ∀ (d e : D) {A : Around} {v w : Value}, okD d e = true → Rep s.heap own d v → Rep s.heap own e w → A.units + dep d < cLine → RcAt A s v w (eqD d e)
  | .int a, e, A, v, w, k, x, y, _ => by
    cases e <;> first | exact absurd k Bool.false_ne_true | skip
    obtain ⟨t, rfl⟩ := x; obtain ⟨u, rfl⟩ := y; exact RcAt.int_int _ _ _ _
  | .str a, e, A, v, w, k, x, y, _ => by
    cases e <;> first | exact absurd k Bool.false_ne_true | skip
    obtain ⟨t, rfl⟩ := x; obtain ⟨u, rfl⟩ := y; exact RcAt.str_str _ _ _ _
  | .byt a, e, A, v, w, k, x, y, _ => by
    cases e <;> first | exact absurd k Bool.false_ne_true | skip
    obtain ⟨t, rfl⟩ := x; obtain ⟨u, rfl⟩ := y; exact RcAt.bytbyt _ _ _ _
  | .flt a, e, A, v, w, k, x, y, _ => by
    cases e <;> first | exact absurd k Bool.false_ne_true | skip
    obtain ⟨t, rfl, _⟩ := x; obtain ⟨u, rfl, _⟩ := y; exact RcAt.fltflt _ _ _ _
  | .tup l, e, A, v, w, k, x, y, hu => by
    cases e <;> first | exact absurd k Bool.false_ne_true | skip
    rename_i r
    obtain ⟨a, vs, rfl, _, p, x⟩ := x; obtain ⟨b, ws, rfl, _, p', y⟩ := y
    exact rc_tup p p' x.length y.length hu (eqAts_of nb l r (A := A.in1) k x y (by show A.units + 1 + _ < _; replace hu : A.units + (deps l + 1) < cLine := hu; omega))
  | .lst l, e, A, v, w, k, x, y, hu => by
    cases e <;> first | exact absurd k Bool.false_ne_true | skip
    rename_i r
    obtain ⟨a, vs, rfl, _, p, x⟩ := x; obtain ⟨b, ws, rfl, _, p', y⟩ := y
    exact rc_lst p p' x.length y.length hu (eqAts_of nb l r (A := A.in1) k x y (by show A.units + 1 + _ < _; replace hu : A.units + (deps l + 1) < cLine := hu; omega))
  | .none, e, A, v, w, k, x, y, _ => by cases e <;> exact absurd k Bool.false_ne_true
  | .bool b, e, A, v, w, k, x, y, _ => by cases e <;> exact absurd k Bool.false_ne_true
  | .raw b, e, A, v, w, k, x, y, _ => by cases e <;> exact absurd k Bool.false_ne_true
theorem eqAt_of {s : Shared} {own : Own} (nb : NoneBooked s.heap) : ∀ (d e : D) {A : Around} {v w : Value}, okD d e = true → Rep s.heap own d v → Rep s.heap own e w → A.units + dep d < cLine → EqAt A s v w (eqD d e)
  | .int a, e, A, v, w, k, x, y, _ => by
    cases e <;> first | exact absurd k Bool.false_ne_true | skip
    obtain ⟨t, rfl⟩ := x; obtain ⟨u, rfl⟩ := y; exact EqAt.int_int _ _ _ _
  | .str a, e, A, v, w, k, x, y, _ => by
    cases e <;> first | exact absurd k Bool.false_ne_true | skip
    obtain ⟨t, rfl⟩ := x; obtain ⟨u, rfl⟩ := y; exact EqAt.str_str _ _ _ _
  | .byt a, e, A, v, w, k, x, y, _ => by
    cases e <;> first | exact absurd k Bool.false_ne_true | skip
    obtain ⟨t, rfl⟩ := x; obtain ⟨u, rfl⟩ := y; exact EqAt.bytbyt _ _ _ _
  | .flt a, e, A, v, w, k, x, y, _ => by
    cases e <;> first | exact absurd k Bool.false_ne_true | skip
    obtain ⟨t, rfl, ht⟩ := x; obtain ⟨u, rfl, hu⟩ := y; replace k : (Float64.cmp a _ == some .eq) = true := k; show EqAt A s _ _ (Float64.cmp a _ == some .eq); rw [k]; exact EqAt.fltflt _ _ _ _ ht hu nb k
  | .tup l, e, A, v, w, k, x, y, hu => by
    cases e <;> first | exact absurd k Bool.false_ne_true | skip
    rename_i r
    obtain ⟨a, vs, rfl, _, p, x⟩ := id x; obtain ⟨b, ws, rfl, _, p', y⟩ := id y
    by_cases hab : a = b
    · subst hab
      rw [rep_eq (.tup l) (.tup r) k (by assumption) (by assumption)]
      exact EqAt.same _
    · exact EqAt.of_refs hab (rc_tup p p' x.length y.length hu (eqAts_of nb l r (A := A.in1) k x y (by show A.units + 1 + _ < _; replace hu : A.units + (deps l + 1) < cLine := hu; omega)))
  | .lst l, e, A, v, w, k, x, y, hu => by
    cases e <;> first | exact absurd k Bool.false_ne_true | skip
    rename_i r
    obtain ⟨a, vs, rfl, _, p, x⟩ := id x; obtain ⟨b, ws, rfl, _, p', y⟩ := id y
    by_cases hab : a = b
    · subst hab
      rw [rep_eq (.lst l) (.lst r) k (by assumption) (by assumption)]
      exact EqAt.same _
    · exact EqAt.of_refs hab (rc_lst p p' x.length y.length hu (eqAts_of nb l r (A := A.in1) k x y (by show A.units + 1 + _ < _; replace hu : A.units + (deps l + 1) < cLine := hu; omega)))
  | .none, e, A, v, w, k, x, y, _ => by cases e <;> exact absurd k Bool.false_ne_true
  | .bool b, e, A, v, w, k, x, y, _ => by cases e <;> exact absurd k Bool.false_ne_true
  | .raw b, e, A, v, w, k, x, y, _ => by cases e <;> exact absurd k Bool.false_ne_true
theorem eqAts_of {s : Shared} {own : Own} (nb : NoneBooked s.heap) : ∀ (l r : List D) {A : Around} {vs ws : List Value}, okDs l r = true → Reps s.heap own l vs → Reps s.heap own r ws → A.units + deps l < cLine →
    ∀ (j : Nat) (h1 : j < vs.length) (h2 : j < ws.length), EqAt A s vs[j] ws[j] (eqD (l.getD j .none) (r.getD j .none))
  | [], _, A, vs, ws, k, x, y, _, j, h1, h2 => by cases x; simp at h1
  | _ :: _, [], A, vs, ws, k, x, y, _, j, h1, h2 => by cases y; simp at h2
  | d :: l, e :: r, A, vs, ws, k, x, y, hu, j, h1, h2 => by
    obtain ⟨v, vr, rfl, x1, x2⟩ := x; obtain ⟨w, wr, rfl, y1, y2⟩ := y
    replace k : (okD d e && okDs l r) = true := k
    rw [Bool.and_eq_true] at k
    replace hu : A.units + max (dep d) (deps l) < cLine := hu
    cases j with
    | zero => exact eqAt_of nb d e k.1 x1 y1 (by omega)
    | succ j => exact eqAts_of nb l r k.2 x2 y2 (by omega) j (by simpa using h1) (by simpa using h2)
end

theorem nb_of (O : C.Ok) {own : Own} {s : Shared} (w : Wd C own s) : NoneBooked s.heap := by
  obtain ⟨mc, h1, h2⟩ := O.nb
  exact ⟨mc, h1.keeps w.base, h2⟩
theorem Cmp.eq (O : C.Ok) {d e : D} (k : okD d e = true) (hd : dep d ≤ 100) : Cmp C .Eq d e (eqD d e) := fun A s own v w a wd x y => by
  have := a.units
  exact rcAt_of (nb_of O wd) d e k x y (by show _ < 9900; omega) _ _ _ _ ⟨.refl .., rfl⟩
theorem Cmp.nel (O : C.Ok) {l r : List D} (k : okDs l r = true) (hd : deps l ≤ 100) : Cmp C .NotEq (.lst l) (.lst r) (!eqDs l r) := fun A s own v w a wd x y => by
  have hu := a.units
  obtain ⟨a, vs, rfl, _, p, x⟩ := x; obtain ⟨b, ws, rfl, _, p', y⟩ := y
  have h1 := x.length; have h2 := y.length
  have hc : A.units < cLine := by show _ < 9900; omega
  cases hl : (l.length == r.length) with
  | true =>
    have hl := beq_iff_eq.mp hl
    have key := RcNeAt.lists (A := A) (s := s) (e := fun j => eqD (l.getD j .none) (r.getD j .none)) p.is p'.is (by simp [h1, h2, hl]) hc (fun j q1 q2 => by
      simpa using eqAts_of (nb_of O wd) l r (A := A.in1) k x y (by show A.units + 1 + _ < 9900; omega) j (by simpa using q1) (by simpa using q2))
    rw [List.size_toArray, h1, eqDs_range l r hl] at key
    exact key _ _ _ _ ⟨.refl .., rfl⟩
  | false =>
    rw [eqDs_len l r hl]
    exact RcNeAt.lists_lengths p.is p'.is (by simpa [h1, h2] using hl) hc _ _ _ _ ⟨.refl .., rfl⟩

open Classical in
noncomputable def isOf (h : Heap) (own : Own) (d : D) (v : Value) : Bool := decide (∃ e, noraw e = true ∧ Rep h own e v ∧ eqD e d = true)
open Classical in
theorem isOf_eq {h : Heap} {own : Own} {d e : D} {v : Value} (k : noraw e = true) (x : Rep h own e v) : isOf h own d v = eqD e d := by
  unfold isOf
  cases q : eqD e d with
  | true => exact decide_eq_true ⟨e, k, x, q⟩
  | false => exact decide_eq_false fun ⟨e', k', x', q'⟩ => by rw [rep_det e' e k' k x' x, q] at q'; cases q'
theorem isOf_any {h : Heap} {own : Own} {d : D} : ∀ {l : List D} {vs : List Value}, noraws l = true → Reps h own l vs → vs.any (isOf h own d) = l.any fun e => eqD e d
  | [], vs, _, x => by cases x; rfl
  | e :: l, vs, k, x => by
    obtain ⟨v, r, rfl, x1, x2⟩ := x
    replace k : (noraw e && noraws l) = true := k
    rw [Bool.and_eq_true] at k
    rw [List.any_cons, List.any_cons, isOf_eq k.1 x1, isOf_any k.2 x2]
theorem inAt {s : Shared} {own : Own} (nb : NoneBooked s.heap) {d : D} {A : Around} {w : Value} (y : Rep s.heap own d w) : ∀ {l : List D} {vs : List Value}, noraws l = true → (∀ e ∈ l, okD e d = true ∧ dep e ≤ 100) → Reps s.heap own l vs → A.units + 100 < cLine → ∀ v, v ∈ vs.toArray → EqAt A s v w (isOf s.heap own d v)
  | [], vs, _, _, x, _, v, hv => by cases x; simp at hv
  | e :: l, vs, k, ok, x, hu, v, hv => by
    obtain ⟨u, r, rfl, x1, x2⟩ := x
    replace k : (noraw e && noraws l) = true := k
    rw [Bool.and_eq_true] at k
    have : v = u ∨ v ∈ r := by simpa using hv
    rcases this with rfl | hv
    · rw [isOf_eq k.1 x1]; exact eqAt_of nb e d (ok e (.head _)).1 x1 y (by have := (ok e (.head _)).2; omega)
    · exact inAt nb y k.2 (fun e he => ok e (.tail _ he)) x2 hu v (by simpa using hv)
theorem Cmp.inl (O : C.Ok) {d : D} {l : List D} (k : noraws l = true) (ok : ∀ e ∈ l, okD e d = true ∧ dep e ≤ 100) : Cmp C .In d (.lst l) (l.any fun e => eqD e d) := fun A s own v w a wd x y => by
  have hu := a.units
  obtain ⟨b, ws, rfl, _, p, y⟩ := y
  refine in_listAt (isOf s.heap own d) p.is (inAt (nb_of O wd) x k ok y (by show A.units + 1 + _ < 9900; omega)) ⟨.refl .., ?_⟩
  rw [List.any_toArray, isOf_any k y]
theorem Cmp.ninl (O : C.Ok) {d : D} {l : List D} (k : noraws l = true) (ok : ∀ e ∈ l, okD e d = true ∧ dep e ≤ 100) : Cmp C .NotIn d (.lst l) (!l.any fun e => eqD e d) := fun A s own v w a wd x y => by
  have hu := a.units
  obtain ⟨b, ws, rfl, _, p, y⟩ := y
  refine notIn_listAt (isOf s.heap own d) p.is (inAt (nb_of O wd) x k ok y (by show A.units + 1 + _ < 9900; omega)) ⟨.refl .., ?_⟩
  rw [List.any_toArray, isOf_any k y]
theorem Cmp.int (O : C.Ok) {d : D} {l : List D} (k : noraws l = true) (ok : ∀ e ∈ l, okD e d = true ∧ dep e ≤ 100) : Cmp C .In d (.tup l) (l.any fun e => eqD e d) := fun A s own v w a wd x y => by
  have hu := a.units
  obtain ⟨b, ws, rfl, _, p, y⟩ := y
  refine in_tupleAt (isOf s.heap own d) p.is (inAt (nb_of O wd) x k ok y (by show A.units + 1 + _ < 9900; omega)) ⟨.refl .., ?_⟩
  rw [List.any_toArray, isOf_any k y]
theorem Cmp.nint (O : C.Ok) {d : D} {l : List D} (k : noraws l = true) (ok : ∀ e ∈ l, okD e d = true ∧ dep e ≤ 100) : Cmp C .NotIn d (.tup l) (!l.any fun e => eqD e d) := fun A s own v w a wd x y => by
  have hu := a.units
  obtain ⟨b, ws, rfl, _, p, y⟩ := y
  refine notIn_tupleAt (isOf s.heap own d) p.is (inAt (nb_of O wd) x k ok y (by show A.units + 1 + _ < 9900; omega)) ⟨.refl .., ?_⟩
  rw [List.any_toArray, isOf_any k y]
end Mine
namespace Mine
open PySem PySem.Calls PyProof.Rows PySem.W
variable {C : Cx} {n : Nat} {nm : Names} {Γ : Gam}

/-! calls of types, methods -/
theorem Ev.calt {x : Str} {p p' : Pos} {e : Expr} {es : List Expr} {T : String} {ds : List D} {d : D} (hx : Ev C n nm Γ (.Name x p') (.raw (.type T))) (ha : Evs C n nm Γ (e :: es) ds) (hf : Cal C n (.type T) ds d)
    (he : ∀ env, starEach (e :: es) env = (false, eval e env) :: starEach es env) (hp : ∀ env, (backTo p (starEach es env)).any (·.1) = false) : Ev C n nm Γ (.Call (.Name x p') (e :: es) [] p) d := .mk fun F A s q a f => by
  show wpAny _ _ (eval (.Name x p') F.env >>= fun fv => callWith p fv [] (backTo p (starEach (e :: es) F.env)) (backToKw p (keywordEach [] F.env))) _ _ s
  refine wpAny_bind (bot_mono (hx.go F A s q a f) fun v s₁ ⟨y, z⟩ => ?_)
  cases z
  refine PyProof.Rows.callWith_type1 (bot_mono (ha.go F A s₁ p q a (f.step y)) fun vs s₂ ⟨y₂, hr⟩ => ?_) (he _) (hp _)
  exact bot_mono (hf A s₂ F.own vs a (f.step (y.trans y₂)).wd hr) fun v s₃ ⟨y₃, z₃⟩ => ⟨(y.trans y₂).trans y₃, z₃⟩
noncomputable def Mt (C : Cx) (d : D) (name : Str) (id : String) : Prop := ∀ A s (own : Own) v pl (Q : Value × List Value → Shared → Prop), Wd C own s → Rep s.heap own d v → Q (.builtin id, [v]) s → wpAny (model C.prog C.w) A (getMethod v name pl) Q Bot s
theorem Ev.met1 {o e : Expr} {es : List Expr} {name : Str} {ap p : Pos} {id : String} {d₀ d : D} {ds : List D} (ho : Ev C n nm Γ o d₀) (hm : Mt C d₀ name id) (ha : Evs C n nm Γ (e :: es) ds) (hf : Cal C n (.builtin id) (d₀ :: ds) d)
    (he : ∀ env, ∃ pl, eval (.Call (.Attribute o name ap) (e :: es) [] p) env = (do
      let ov ← eval o env
      standAt ap.atName
      let (f, first) ← holding [ov] (getMethod ov name pl)
      callWith p f first (backTo p (starEach (e :: es) env)) [])) (hs : ∀ env, starEach (e :: es) env = (false, eval e env) :: starEach es env) (hp : ∀ env, (backTo p (starEach es env)).any (·.1) = false) : Ev C n nm Γ (.Call (.Attribute o name ap) (e :: es) [] p) d := .mk fun F A s q a f => by
  obtain ⟨pl, he⟩ := he F.env
  refine MethodCall_ (pl := pl) (bot_mono (ho.go F A s q a f) fun v s₁ ⟨y, z⟩ => hm A s₁ F.own v pl _ (f.wd.stepN y) z ?_) he
  refine callWith_method1 (bot_mono (ha.go F A s₁ p q a (f.step y)) fun vs s₂ ⟨y₂, hr⟩ => ?_) (hs _) (hp _)
  exact bot_mono (hf A s₂ F.own (v :: vs) a (f.step (y.trans y₂)).wd (.cons (z.stepN y₂) hr)) fun v s₃ ⟨y₃, z₃⟩ => ⟨(y.trans y₂).trans y₃, z₃⟩

/-! slices of lists -/
inductive Pt (C : Cx) (n : Nat) (nm : Names) (Γ : Gam) : Option Expr → Option Int → Prop
  | none : Pt C n nm Γ none none
  | some {e i} : Ev C n nm Γ e (.int i) → Pt C n nm Γ (some e) (some i)
theorem Pt.ev {e : Option Expr} {i : Option Int} (h : Pt C n nm Γ e i) (F : Fr1) (A : Around) (s : Shared) (q : F.nm = nm) (a : Aok n A) (f : Fm C F Γ s) : wpAny (model C.prog C.w) A (evalPart e F.env) (fun v s' => Step No s s' ∧ IsPart v i) Bot s := by
  cases h with
  | none => exact wpAny_pure ⟨.refl .., .none⟩
  | some h => exact bot_mono (h.go F A s q a f) fun v s₁ ⟨y, t, z⟩ => ⟨y, by subst z; exact .int _ _⟩
noncomputable def cut (l : List D) (lo hi : Option Int) : List D := (l.drop (lo.elim 0 (clipAt l.length))).take (hi.elim l.length (clipAt l.length) - lo.elim 0 (clipAt l.length))
theorem Ev.cutl {e : Expr} {lo hi : Option Expr} {i j : Option Int} {p p' : Pos} {l : List D} (h : Ev C n nm Γ e (.lst l)) (hlo : Pt C n nm Γ lo i) (hhi : Pt C n nm Γ hi j) (hz : l.length ≤ sizeLine) (ht : ∀ o r, letTemporaryGo e o r = pure ()) :
    Ev C n nm Γ (.Subscript e (.Slice lo hi none p) p') (.lst (cut l i j)) := .mk fun F A s q a f => by
  refine wpAny_Subscript_list_slice (bot_mono (h.go F A s q a f) fun v s₁ ⟨y, z⟩ => bot_mono (hlo.ev F A s₁ q a (f.step y)) fun v₁ s₂ ⟨y₂, z₂⟩ => bot_mono (hhi.ev F A s₂ q a (f.step (y.trans y₂))) fun v₂ s₃ ⟨y₃, z₃⟩ => ?_) ht
  obtain ⟨b, vs, rfl, no, hl, hr⟩ := (z.stepN y₂).stepN y₃
  refine ⟨b, vs.toArray, i, j, rfl, hl.is, by simpa [hr.length] using hz, z₂, z₃, ?_⟩
  have yy : Step No s₃ { s₃ with heap := (s₃.heap.push { cls := .type "slice", data := .fields #[v₁, v₂, .none] }).push { cls := .type "list", data := .seq (slicePick vs.toArray i j none) } } := .ext fun b o e => Heap.get?_push_of_some _ (Heap.get?_push_of_some _ e)
  refine ⟨((y.trans y₂).trans y₃).trans yy, _, (vs.drop (i.elim 0 (clipAt vs.length))).take (j.elim vs.length (clipAt vs.length) - i.elim 0 (clipAt vs.length)), rfl, (((f.wd.stepN y).stepN y₂).stepN y₃).off (none_of_le (Nat.le_succ _)), ⟨0, ?_⟩, ?_⟩
  · rw [slicePick_plain]
    simp only [List.size_toArray]
    have : s₃.heap.objs.size + 1 = (s₃.heap.push { cls := .type "slice", data := .fields #[v₁, v₂, .none] }).objs.size := (Heap.size_push ..).symm
    rw [this]
    exact Heap.get?_push_size _ rfl
  · unfold cut
    rw [← hr.length]
    exact ((hr.drop _).take _).stepN yy
theorem clip_nat (n i : Nat) : clipAt n (i : Int) = min i n := by unfold clipAt; omega
theorem cut_to (l : List D) (j : Nat) : cut l none (some (j : Int)) = l.take j := by
  unfold cut
  simp only [Option.elim, List.drop_zero, Nat.sub_zero]
  have : clipAt l.length (j : Int) = min j l.length := clip_nat _ _
  rw [this]
  rcases Nat.le_total j l.length with h | h
  · rw [Nat.min_eq_left h]
  · rw [Nat.min_eq_right h, List.take_of_length_le (Nat.le_refl _), List.take_of_length_le h]
theorem cut_from (l : List D) (i : Nat) : cut l (some (i : Int)) none = l.drop i := by
  unfold cut
  simp only [Option.elim]
  have : clipAt l.length (i : Int) = min i l.length := clip_nat _ _
  rw [this]
  rcases Nat.le_total i l.length with h | h
  · rw [Nat.min_eq_left h, List.take_of_length_le (by simp)]
  · rw [Nat.min_eq_right h]; simp; omega
theorem cut_mid (l : List D) (i j : Nat) : cut l (some (i : Int)) (some (j : Int)) = (l.drop i).take (j - i) := by
  unfold cut
  simp only [Option.elim]
  have e1 : clipAt l.length (i : Int) = min i l.length := clip_nat _ _
  have e2 : clipAt l.length (j : Int) = min j l.length := clip_nat _ _
  rw [e1, e2]
  rcases Nat.le_total i l.length with h | h
  · rw [Nat.min_eq_left h]
    rcases Nat.le_total j l.length with h' | h'
    · rw [Nat.min_eq_left h']
    · rw [Nat.min_eq_right h', List.take_of_length_le (by simp), List.take_of_length_le (by simp; omega)]
  · rw [Nat.min_eq_right h]
    have : l.drop i = [] := List.drop_eq_nil_of_le h
    rw [this]; simp

/-! lists of whole numbers -/
noncomputable abbrev Ints (l : List Int) : List D := l.map D.int
theorem Reps.ints {h : Heap} {own : Own} : ∀ {l : List Int} {vs : List Value}, Reps h own (Ints l) vs → IntsAre vs l
  | [], vs, x => by cases x; exact .nil
  | i :: l, vs, ⟨v, r, e, ⟨t, q⟩, x⟩ => by subst e; subst q; exact .cons _ _ (Reps.ints x)
theorem ints_reps {h : Heap} {own : Own} : ∀ {l : List Int} {vs : List Value}, IntsAre vs l → Reps h own (Ints l) vs
  | _, _, .nil => rfl
  | _, _, .cons n t x => ⟨_, _, rfl, ⟨t, rfl⟩, ints_reps x⟩
theorem ints_items {l : List Int} {vs : List Value} (x : IntsAre vs l) : ∃ xs : Array (Int × Tok), vs.toArray = intItems xs ∧ xs.toList.map (·.1) = l := by
  obtain ⟨xs, hx⟩ := x.allInts.items
  refine ⟨xs, hx, ?_⟩
  rw [← nums_intItems, ← hx]
  exact x.numsOf

/-! calls -/
theorem Cal.suml {l : List Int} : Cal C (n + 1) (.builtin "sum") [.lst (Ints l)] (.int l.sum) := fun A s own vs a w hr => by
  obtain ⟨v, r, rfl, ⟨b, ws, rfl, no, hl, hr⟩, hn⟩ := hr
  cases hn
  obtain ⟨xs, e1, e2⟩ := ints_items hr.ints
  have hl' : s.heap.IsList b (intItems xs) := e1 ▸ hl.is
  refine wpAny_with_toks (Nat.le_refl _) (sum_intListG a.handled hl' fun h' tk t' hk ht => ?_)
  refine ⟨.ext hk, t', ?_⟩
  rw [preSum_eq, List.take_of_length_le (by simp), e2]
theorem Cal.lenl {l : List D} (h : l.length < 2 ^ 62) : Cal C (n + 1) (.builtin "len") [.lst l] (.int l.length) := fun A s own vs a w hr => by
  obtain ⟨v, r, rfl, ⟨b, ws, rfl, no, hl, hr⟩, hn⟩ := hr
  cases hn
  have := hr.length
  refine call_len_list hl.is (by simp; omega) ⟨.toks, _, by simp [this]; rfl⟩
theorem Cal.lens {x : Str} (h : x.length < 2 ^ 62) : Cal C (n + 1) (.builtin "len") [.str x] (.int x.length) := fun A s own vs a w hr => by
  obtain ⟨v, r, rfl, ⟨t, rfl⟩, hn⟩ := hr
  cases hn
  exact len_str (by omega) ⟨.toks, _, rfl⟩
theorem Cal.abs {i : Int} : Cal C (n + 1) (.builtin "abs") [.int i] (.int (if i < 0 then -i else i)) := fun A s own vs a w hr => by
  obtain ⟨v, r, rfl, ⟨t, rfl⟩, hn⟩ := hr
  cases hn
  exact wpAny_with_toks (Nat.le_refl _) (call_abs_int fun u tk ht => ⟨.toks, _, rfl⟩)
theorem Cal.inti {i : Int} : Cal C (n + 1) (.type "int") [.int i] (.int i) := fun A s own vs a w hr => by
  obtain ⟨v, r, rfl, ⟨t, rfl⟩, hn⟩ := hr
  cases hn
  exact call_int_int ⟨.refl .., _, rfl⟩
noncomputable def truncI (x : UInt64) : Int := Flt.toInt Float64.truncOf x
theorem Cal.intf {x : UInt64} (h : Float64.isFinite x = true) : Cal C (n + 1) (.type "int") [.flt x] (.int (truncI x)) := fun A s own vs a w hr => by
  obtain ⟨v, r, rfl, ⟨t, rfl, _⟩, hn⟩ := hr
  cases hn
  rcases Flt.three x with ⟨hd, c⟩ | ⟨_, hd, c⟩ | ⟨sg, m, e, hd, c⟩
  · exfalso; unfold Float64.isFinite at h; rw [hd] at h; cases h
  · exfalso; unfold Float64.isFinite at h; rw [hd] at h; cases h
  · refine call_int_float hd ⟨.toks, s.toks, ?_⟩
    unfold truncI; rw [Flt.toInt_fin hd]
theorem Cal.tupl {l : List D} (h : l.length ≤ sizeLine) : Cal C (n + 1) (.type "tuple") [.lst l] (.tup l) := fun A s own vs a w hr => by
  obtain ⟨v, r, rfl, ⟨b, ws, rfl, no, hl, hr⟩, hn⟩ := hr
  cases hn
  refine call_tuple_list hl.is (fun h' k => ?_) (by simpa [hr.length] using h)
  have y : Step No s { s with heap := h'.push { cls := .type "tuple", data := .seq ws.toArray } } := .ext fun b o e => Heap.get?_push_of_some _ (k b o e)
  have w' : Wd C own { s with heap := h' } := w.stepN (.ext k)
  exact ⟨y, _, ws, rfl, w'.new, ⟨0, Heap.get?_push_size _ rfl⟩, hr.stepN y⟩
theorem Cal.bytl {l : List Int} (h : ∀ i ∈ l, 0 ≤ i ∧ i < 256) (hz : l.length ≤ sizeLine) : Cal C (n + 1) (.type "bytes") [.lst (Ints l)] (.byt (byteArr l)) := fun A s own vs a w hr => by
  obtain ⟨v, r, rfl, ⟨b, ws, rfl, no, hl, hr⟩, hn⟩ := hr
  cases hn
  have := hr.length
  exact wpAny_with_toks (Nat.le_refl _) (call_bytes_ints hl.is hr.ints h (by simpa [this] using hz) a.handled fun h' t k hk ht => ⟨.ext hk, t, rfl⟩)
theorem Cal.srt {l l' : List Int} (h : l.length < 64) (hp : l'.Perm l) (hs : l'.Pairwise (· ≤ ·)) : Cal C (n + 1) (.builtin "sorted") [.lst (Ints l)] (.lst (Ints l')) := fun A s own vs a w hr => by
  obtain ⟨v, r, rfl, ⟨b, ws, rfl, no, hl, hr⟩, hn⟩ := hr
  cases hn
  have := hr.length
  refine sorted_ints hl.is hr.ints (by simpa [this] using h) fun out ns' h1 h2 h3 => ?_
  have e : ns' = l' := List.Perm.eq_of_pairwise (le := (· ≤ ·)) (fun _ _ _ _ h1 h2 => by omega) h3 hs (h2.trans hp.symm)
  subst e
  have y : Step No s { s with heap := sortedAll s.heap ws out } := .ext fun b o e => sortedAll_old e
  obtain ⟨k, hk⟩ := sortedAll_at s.heap ws out
  exact ⟨y, _, out.toList, rfl, w.off (none_of_le (Nat.le_succ _)), ⟨k, by simpa [seqObj] using hk⟩, ints_reps h1⟩
theorem Cal.idxl {l : List Int} {k : Int} (hk : k ∈ l) (hz : PyData.layable0 (.list (l.map .int)) = true) : Cal C (n + 1) (.builtin "list.index") [.lst (Ints l), .int k] (.int (l.idxOf k : Nat)) := fun A s own vs a w hr => by
  obtain ⟨v, r, rfl, ⟨b, ws, rfl, no, hl, hr⟩, v', r', rfl, ⟨t, rfl⟩, hn⟩ := hr
  cases hn
  exact index_list_ints hl.is hr.ints hz hk ⟨.toks, _, rfl⟩
theorem noDict_of {h : Heap} {b : Addr} {c : Value} {d : Data} (e : h.get? b = some { cls := c, data := d }) : h.NoDictAt (.ref b) := ⟨_, e, rfl⟩
theorem Mt.idx {l : List D} : Mt C (.lst l) "index" "list.index" := fun A s own v pl Q w hr hq => by
  obtain ⟨b, ws, rfl, no, ⟨m, hl⟩, hr⟩ := hr
  exact getMethod_list_of PySem.F.slot_list_index (by rfl) (PLst.is ⟨m, hl⟩) (noDict_of hl) hq

/-! three numbers -/
noncomputable def max3i (a b c : Int) : Int := if b > a then (if c > b then c else b) else (if c > a then c else a)
noncomputable def min3i (a b c : Int) : Int := if b < a then (if c < b then c else b) else (if c < a then c else a)
theorem Cal.max3i {a b c : Int} : Cal C (n + 1) (.builtin "max") [.lst (Ints [a, b, c])] (.int (Mine.max3i a b c)) := fun A s own vs ak w hr => by
  obtain ⟨v, r, rfl, ⟨l, ws, rfl, no, hl, hr⟩, hn⟩ := hr
  cases hn
  obtain ⟨_, _, rfl, ⟨t, rfl⟩, _, _, rfl, ⟨u, rfl⟩, _, _, rfl, ⟨x, rfl⟩, hr⟩ := hr
  cases hr
  have e : [Value.int a t, .int b u, .int c x].toArray = intItems #[(a, t), (b, u), (c, x)] := by simp [intItems]
  refine wpAny_with_toks (Nat.le_refl _) (max_intList ak.handled (e ▸ hl.is) (by simp) fun v h' tk hv hk ht => ⟨.ext hk, ?_⟩)
  unfold Mine.max3i
  by_cases hba : b > a
  · by_cases hc : c > b
    · have e : argBest (fun i j => decide (numAt #[(a, t), (b, u), (c, x)] i > numAt #[(a, t), (b, u), (c, x)] j)) 2 = 2 := by simp [argBest, numAt, hba, hc]
      have hv : (intItems #[(a, t), (b, u), (c, x)])[2]? = some v := by rw [← hv]; congr 1; exact e.symm
      exact ⟨x, by simpa [intItems, hba, hc] using hv.symm⟩
    · have e : argBest (fun i j => decide (numAt #[(a, t), (b, u), (c, x)] i > numAt #[(a, t), (b, u), (c, x)] j)) 2 = 1 := by simp [argBest, numAt, hba, hc]
      have hv : (intItems #[(a, t), (b, u), (c, x)])[1]? = some v := by rw [← hv]; congr 1; exact e.symm
      exact ⟨u, by simpa [intItems, hba, hc] using hv.symm⟩
  · by_cases hc : c > a
    · have e : argBest (fun i j => decide (numAt #[(a, t), (b, u), (c, x)] i > numAt #[(a, t), (b, u), (c, x)] j)) 2 = 2 := by simp [argBest, numAt, hba, hc]
      have hv : (intItems #[(a, t), (b, u), (c, x)])[2]? = some v := by rw [← hv]; congr 1; exact e.symm
      exact ⟨x, by simpa [intItems, hba, hc] using hv.symm⟩
    · have e : argBest (fun i j => decide (numAt #[(a, t), (b, u), (c, x)] i > numAt #[(a, t), (b, u), (c, x)] j)) 2 = 0 := by simp [argBest, numAt, hba, hc]
      have hv : (intItems #[(a, t), (b, u), (c, x)])[0]? = some v := by rw [← hv]; congr 1; exact e.symm
      exact ⟨t, by simpa [intItems, hba, hc] using hv.symm⟩
theorem Cal.min3i {a b c : Int} : Cal C (n + 1) (.builtin "min") [.lst (Ints [a, b, c])] (.int (Mine.min3i a b c)) := fun A s own vs ak w hr => by
  obtain ⟨v, r, rfl, ⟨l, ws, rfl, no, hl, hr⟩, hn⟩ := hr
  cases hn
  obtain ⟨_, _, rfl, ⟨t, rfl⟩, _, _, rfl, ⟨u, rfl⟩, _, _, rfl, ⟨x, rfl⟩, hr⟩ := hr
  cases hr
  have e : [Value.int a t, .int b u, .int c x].toArray = intItems #[(a, t), (b, u), (c, x)] := by simp [intItems]
  refine wpAny_with_toks (Nat.le_refl _) (min_intList ak.handled (e ▸ hl.is) (by simp) fun v h' tk hv hk ht => ⟨.ext hk, ?_⟩)
  unfold Mine.min3i
  by_cases hba : b < a
  · by_cases hc : c < b
    · have e : argBest (fun i j => decide (numAt #[(a, t), (b, u), (c, x)] i < numAt #[(a, t), (b, u), (c, x)] j)) 2 = 2 := by simp [argBest, numAt, hba, hc]
      have hv : (intItems #[(a, t), (b, u), (c, x)])[2]? = some v := by rw [← hv]; congr 1; exact e.symm
      exact ⟨x, by simpa [intItems, hba, hc] using hv.symm⟩
    · have e : argBest (fun i j => decide (numAt #[(a, t), (b, u), (c, x)] i < numAt #[(a, t), (b, u), (c, x)] j)) 2 = 1 := by simp [argBest, numAt, hba, hc]
      have hv : (intItems #[(a, t), (b, u), (c, x)])[1]? = some v := by rw [← hv]; congr 1; exact e.symm
      exact ⟨u, by simpa [intItems, hba, hc] using hv.symm⟩
  · by_cases hc : c < a
    · have e : argBest (fun i j => decide (numAt #[(a, t), (b, u), (c, x)] i < numAt #[(a, t), (b, u), (c, x)] j)) 2 = 2 := by simp [argBest, numAt, hba, hc]
      have hv : (intItems #[(a, t), (b, u), (c, x)])[2]? = some v := by rw [← hv]; congr 1; exact e.symm
      exact ⟨x, by simpa [intItems, hba, hc] using hv.symm⟩
    · have e : argBest (fun i j => decide (numAt #[(a, t), (b, u), (c, x)] i < numAt #[(a, t), (b, u), (c, x)] j)) 2 = 0 := by simp [argBest, numAt, hba, hc]
      have hv : (intItems #[(a, t), (b, u), (c, x)])[0]? = some v := by rw [← hv]; congr 1; exact e.symm
      exact ⟨t, by simpa [intItems, hba, hc] using hv.symm⟩
/-! three floats -/
noncomputable abbrev fltB (a b : UInt64) : Bool := Float64.cmp a b == some .lt
noncomputable def max3 (a b c : UInt64) : UInt64 := bif fltB a b then (bif fltB b c then c else b) else (bif fltB a c then c else a)
noncomputable def min3 (a b c : UInt64) : UInt64 := bif fltB b a then (bif fltB c b then c else b) else (bif fltB c a then c else a)
theorem Cal.max3f {a b c : UInt64} : Cal C (n + 1) (.builtin "max") [.flt a, .flt b, .flt c] (.flt (Mine.max3 a b c)) := fun A s own vs ak w hr => by
  obtain ⟨_, _, rfl, ⟨t, rfl, ht⟩, _, _, rfl, ⟨u, rfl, hu⟩, _, _, rfl, ⟨x, rfl, hx⟩, hr⟩ := hr
  cases hr
  have hT : (s.heap.push { cls := .type "tuple", data := .seq #[.float a t, .float b u, .float c x] }).IsTuple s.heap.objs.size #[.float a t, .float b u, .float c x] := ⟨_, Heap.get?_push_size _ rfl, rfl, 0, rfl⟩
  have hsz : (s.heap.push { cls := .type "tuple", data := .seq #[.float a t, .float b u, .float c x] }).objs.size = s.heap.objs.size + 1 := Heap.size_push ..
  refine wpAny_with_toks (Nat.le_refl _) (call_max_three (wpAny_pyIter_tuple hT ?_))
  refine ⟨_, [_, s.heap.objs.size], [_], _, _, _, _, rfl, Walks.tuple (A := A.in1) ak.handled _ s.heap.objs.size (by rw [hsz]; exact Nat.ne_of_lt (Nat.lt_succ_self _)) #[.float a t, .float b u, .float c x],
    ⟨⟨_, Heap.get?_push_size _ rfl, rfl, rfl⟩, hT.push _⟩, fun d hd => ?_, by simp, Flt.cmpOf_gt #[.float a t, .float b u, .float c x] (by intro v hv; simp at hv; rcases hv with rfl | rfl | rfl <;> constructor), fun v h' tk hP hk htk => ?_⟩
  · show d < ((s.heap.push _).push _).objs.size
    rw [Heap.size_push, hsz]
    rcases List.mem_cons.mp hd with rfl | hd
    · rw [hsz]; exact Nat.lt_succ_self _
    · rcases List.mem_cons.mp hd with rfl | hd
      · exact Nat.lt_succ_of_lt (Nat.lt_succ_self _)
      · cases hd
  · have hold : ∀ d o, s.heap.get? d = some o → h'.get? d = some o := fun d o e => by
      refine hk d o (fun hm => ?_) (Heap.get?_push_of_some _ (Heap.get?_push_of_some _ e))
      rcases List.mem_cons.mp hm with e1 | hm
      · have := Heap.lt_size e; rw [e1, hsz] at this; exact Nat.lt_irrefl _ (Nat.lt_of_succ_lt this)
      · cases hm
    refine ⟨.ext hold, ?_⟩
    have hP : (#[Value.float a t, .float b u, .float c x])[argBest (fun i j => Flt.ltV (Array.getD #[Value.float a t, .float b u, .float c x] j .none) (Array.getD #[Value.float a t, .float b u, .float c x] i .none)) 2]? = some v := hP
    unfold Mine.max3
    have l1 : ∀ (p q : UInt64) (t u : Tok), Flt.ltV (.float p t) (.float q u) = fltB p q := fun _ _ _ _ => rfl
    simp only [argBest] at hP
    have g0 : Array.getD #[Value.float a t, .float b u, .float c x] 0 .none = .float a t := rfl
    have g1 : Array.getD #[Value.float a t, .float b u, .float c x] 1 .none = .float b u := rfl
    have g2 : Array.getD #[Value.float a t, .float b u, .float c x] 2 .none = .float c x := rfl
    simp only [Nat.zero_add, g0, g1, l1] at hP
    cases h1 : fltB a b with
    | true =>
      simp only [h1, if_true, g1, g2, Nat.reduceAdd, l1] at hP
      cases h2 : fltB b c with
      | true => simp only [h2, if_true] at hP; exact ⟨x, by simpa using hP.symm, hx⟩
      | false => simp only [h2, Bool.false_eq_true, if_false] at hP; exact ⟨u, by simpa using hP.symm, hu⟩
    | false =>
      simp only [h1, Bool.false_eq_true, if_false, g0, g2, Nat.reduceAdd, l1] at hP
      cases h2 : fltB a c with
      | true => simp only [h2, if_true] at hP; exact ⟨x, by simpa using hP.symm, hx⟩
      | false => simp only [h2, Bool.false_eq_true, if_false] at hP; exact ⟨t, by simpa using hP.symm, ht⟩
theorem Cal.min3f {a b c : UInt64} : Cal C (n + 1) (.builtin "min") [.flt a, .flt b, .flt c] (.flt (Mine.min3 a b c)) := fun A s own vs ak w hr => by
  obtain ⟨_, _, rfl, ⟨t, rfl, ht⟩, _, _, rfl, ⟨u, rfl, hu⟩, _, _, rfl, ⟨x, rfl, hx⟩, hr⟩ := hr
  cases hr
  have hT : (s.heap.push { cls := .type "tuple", data := .seq #[.float a t, .float b u, .float c x] }).IsTuple s.heap.objs.size #[.float a t, .float b u, .float c x] := ⟨_, Heap.get?_push_size _ rfl, rfl, 0, rfl⟩
  have hsz : (s.heap.push { cls := .type "tuple", data := .seq #[.float a t, .float b u, .float c x] }).objs.size = s.heap.objs.size + 1 := Heap.size_push ..
  refine wpAny_with_toks (Nat.le_refl _) (call_min_three (wpAny_pyIter_tuple hT ?_))
  refine ⟨_, [_, s.heap.objs.size], [_], _, _, _, _, rfl, Walks.tuple (A := A.in1) ak.handled _ s.heap.objs.size (by rw [hsz]; exact Nat.ne_of_lt (Nat.lt_succ_self _)) #[.float a t, .float b u, .float c x],
    ⟨⟨_, Heap.get?_push_size _ rfl, rfl, rfl⟩, hT.push _⟩, fun d hd => ?_, by simp, Flt.cmpOf_lt #[.float a t, .float b u, .float c x] (by intro v hv; simp at hv; rcases hv with rfl | rfl | rfl <;> constructor), fun v h' tk hP hk htk => ?_⟩
  · show d < ((s.heap.push _).push _).objs.size
    rw [Heap.size_push, hsz]
    rcases List.mem_cons.mp hd with rfl | hd
    · rw [hsz]; exact Nat.lt_succ_self _
    · rcases List.mem_cons.mp hd with rfl | hd
      · exact Nat.lt_succ_of_lt (Nat.lt_succ_self _)
      · cases hd
  · have hold : ∀ d o, s.heap.get? d = some o → h'.get? d = some o := fun d o e => by
      refine hk d o (fun hm => ?_) (Heap.get?_push_of_some _ (Heap.get?_push_of_some _ e))
      rcases List.mem_cons.mp hm with e1 | hm
      · have := Heap.lt_size e; rw [e1, hsz] at this; exact Nat.lt_irrefl _ (Nat.lt_of_succ_lt this)
      · cases hm
    refine ⟨.ext hold, ?_⟩
    have hP : (#[Value.float a t, .float b u, .float c x])[argBest (fun i j => Flt.ltV (Array.getD #[Value.float a t, .float b u, .float c x] i .none) (Array.getD #[Value.float a t, .float b u, .float c x] j .none)) 2]? = some v := hP
    unfold Mine.min3
    have l1 : ∀ (p q : UInt64) (t u : Tok), Flt.ltV (.float p t) (.float q u) = fltB p q := fun _ _ _ _ => rfl
    simp only [argBest] at hP
    have g0 : Array.getD #[Value.float a t, .float b u, .float c x] 0 .none = .float a t := rfl
    have g1 : Array.getD #[Value.float a t, .float b u, .float c x] 1 .none = .float b u := rfl
    have g2 : Array.getD #[Value.float a t, .float b u, .float c x] 2 .none = .float c x := rfl
    simp only [Nat.zero_add, g0, g1, l1] at hP
    cases h1 : fltB b a with
    | true =>
      simp only [h1, if_true, g1, g2, Nat.reduceAdd, l1] at hP
      cases h2 : fltB c b with
      | true => simp only [h2, if_true] at hP; exact ⟨x, by simpa using hP.symm, hx⟩
      | false => simp only [h2, Bool.false_eq_true, if_false] at hP; exact ⟨u, by simpa using hP.symm, hu⟩
    | false =>
      simp only [h1, Bool.false_eq_true, if_false, g0, g2, Nat.reduceAdd, l1] at hP
      cases h2 : fltB c a with
      | true => simp only [h2, if_true] at hP; exact ⟨x, by simpa using hP.symm, hx⟩
      | false => simp only [h2, Bool.false_eq_true, if_false] at hP; exact ⟨t, by simpa using hP.symm, ht⟩
end Mine
namespace Mine
open PySem PySem.Calls PyProof.Rows PySem.W
variable {C : Cx} {n : Nat} {nm : Names} {Γ : Gam}

noncomputable def defOf (i : Nat) : List Stmt × Scope × List Arg := match PySem.Challenge.pw_tr0028_01.main.body[i]? with
  | some (.FunctionDef _ a b _ _ _ s _ _ _) => (b, s, a.args)
  | _ => ([], default, [])
noncomputable abbrev bodyOf (i : Nat) : List Stmt := (defOf i).1
noncomputable abbrev scOf (i : Nat) : Scope := (defOf i).2.1
/-- where the text's names lie -/
noncomputable def gtab : List (Str × Option Value) := [
  ("rgb_to_hls", some (.ref 38)), ("hsv_to_rgb", some (.ref 45)), ("Flags", some (.ref 50)), ("Int2AP", some (.ref 57)), ("ParseFlags", some (.ref 64)), ("_iter_escaped_chars", some (.ref 71)),
  ("_strip_quoted_realnames", some (.ref 78)), ("_check_parenthesis", some (.ref 85)), ("_law_ring", some (.ref 90)), ("_law_parts", some (.ref 95)), ("_law_right", some (.ref 102)),
  ("_law_anew", some (.ref 109)), ("_law_flags", some (.ref 114)), ("_law_clear", some (.ref 119)), ("_law_fours", some (.ref 124)),
  ("max", none), ("min", none), ("int", none), ("abs", none), ("divmod", none), ("tuple", none), ("enumerate", none), ("len", none), ("range", none), ("sum", none), ("list", none), ("sorted", none), ("bytes", none)]
structure Gl (C : Cx) : Prop where
  ok : C.Ok
  g : ∀ x v, gtab.lookup x = some v → C.mg x = v
theorem Gl.glob (G : Gl C) {x : Str} {v : Value} {p : Pos} (hg : gtab.lookup x = some (some v)) (hk : nm.lookup x = some .globalImplicit) (hd : (x == ("__debug__" : Str)) = false) : Ev C n nm Γ (.Name x p) (.raw v) := Ev.glob G.ok (G.g _ _ hg) hk hd
theorem Gl.bi (G : Gl C) {x : Str} {v : Value} {p : Pos} (hg : gtab.lookup x = some none) (hb : bootBuiltins x = some v) (hk : nm.lookup x = some .globalImplicit) (hd : (x == ("__debug__" : Str)) = false) (hn : (x == ("__name__" : Str)) = false) : Ev C n nm Γ (.Name x p) (.raw v) :=
  Ev.bi G.ok (G.g _ _ hg) hb hk hd (by simpa using hn)
theorem bi_max : bootBuiltins ("max" : Str) = some (.builtin "max") := by decide +kernel
theorem bi_min : bootBuiltins ("min" : Str) = some (.builtin "min") := by decide +kernel
theorem bi_int : bootBuiltins ("int" : Str) = some (.type "int") := by decide +kernel
theorem bi_abs : bootBuiltins ("abs" : Str) = some (.builtin "abs") := by decide +kernel
theorem bi_divmod : bootBuiltins ("divmod" : Str) = some (.builtin "divmod") := by decide +kernel
theorem bi_tuple : bootBuiltins ("tuple" : Str) = some (.type "tuple") := by decide +kernel
theorem bi_enumerate : bootBuiltins ("enumerate" : Str) = some (.type "enumerate") := by decide +kernel
theorem bi_len : bootBuiltins ("len" : Str) = some (.builtin "len") := by decide +kernel
theorem bi_sum : bootBuiltins ("sum" : Str) = some (.builtin "sum") := by decide +kernel
theorem bi_list : bootBuiltins ("list" : Str) = some (.type "list") := by decide +kernel
theorem bi_sorted : bootBuiltins ("sorted" : Str) = some (.builtin "sorted") := by decide +kernel
theorem bi_bytes : bootBuiltins ("bytes" : Str) = some (.type "bytes") := by decide +kernel
theorem psi {x : Str} {ps : List Str} {d : D} {ds : List D} : pushes (x :: ps) (d :: ds) Γ = pushes ps ds ((x, d) :: Γ) := rfl
end Mine
namespace Mine
open PySem PySem.Calls PyProof.Rows PySem.W
variable {C : Cx} {n : Nat} {nm : Names} {Γ : Gam}

theorem Itms.map {α : Type} {t elt : Expr} (a b : α → D) : ∀ (l : List α), (∀ x ∈ l, ∃ Γ₁, Asn C nm t (a x) Γ Γ₁ ∧ Sub Γ Γ₁ ∧ Ev C n nm Γ₁ elt (b x)) → Itms C n nm t [] (emit elt) Γ (l.map a) (l.map b)
  | [], _ => .nil
  | x :: l, h => by
    obtain ⟨Γ₁, h1, h2, h3⟩ := h x (.head _)
    exact .cons (o := [b x]) ⟨⟨Γ₁, true, [b x], h1, h2, .nil, fun _ => .emit h3, rfl⟩⟩ (Itms.map a b l fun y hy => h y (.tail _ hy))
theorem Itms.fil {α : Type} {t elt e : Expr} (a b : α → D) (p : α → Bool) : ∀ (l : List α), (∀ x ∈ l, ∃ Γ₁, Asn C nm t (a x) Γ Γ₁ ∧ Sub Γ Γ₁ ∧ Tst C n nm Γ₁ e (p x) ∧ (p x = true → Ev C n nm Γ₁ elt (b x))) → Itms C n nm t [e] (emit elt) Γ (l.map a) ((l.filter p).map b)
  | [], _ => .nil
  | x :: l, h => by
    obtain ⟨Γ₁, h1, h2, h3, h4⟩ := h x (.head _)
    have r := Itms.fil a b p l fun y hy => h y (.tail _ hy)
    have e : ((x :: l).filter p).map b = (bif p x then [b x] else []) ++ (l.filter p).map b := by
      cases q : p x <;> simp [q]
    rw [e]
    exact .cons ⟨⟨Γ₁, p x, [b x], h1, h2, .one h3, fun q => .emit (h4 q), rfl⟩⟩ r
/-- a comprehension of one loop, no test -/
theorem Ev.mapc {α : Type} {elt t iter : Expr} {sc : Scope} {cp : Pos} (a b : α → D) (l : List α) (Γ' : Gam) (hi : ItE C (n + 1) nm Γ iter (l.map a)) (ok : compOk nm sc = true) (hΓ : Cap sc Γ Γ')
    (h : ∀ x ∈ l, ∃ Γ₁, Asn C sc.names t (a x) Γ' Γ₁ ∧ Sub Γ' Γ₁ ∧ Ev C (n + 1) sc.names Γ₁ elt (b x)) (hz : l.length ≤ sizeLine)
    (hturn : ∀ it acc env, compTurn (.ListComp elt [⟨t, iter, [], 0⟩] sc cp) 0 it acc env = turnForm t iter [] (emit elt) (.compLoop (.ListComp elt [⟨t, iter, [], 0⟩] sc cp) 0 it acc env) it acc env)
    (hs : ∀ env x, foldedSetIterable iter env x = pure x) : Ev C (n + 1) nm Γ (.ListComp elt [⟨t, iter, [], 0⟩] sc cp) (.lst (l.map b)) :=
  Ev.comp hi ok hΓ (Itms.map a b l h) (by simpa using hz) hturn hs
theorem Ev.filc {α : Type} {elt t iter e : Expr} {sc : Scope} {cp : Pos} (a b : α → D) (p : α → Bool) (l : List α) (Γ' : Gam) (hi : ItE C (n + 1) nm Γ iter (l.map a)) (ok : compOk nm sc = true) (hΓ : Cap sc Γ Γ')
    (h : ∀ x ∈ l, ∃ Γ₁, Asn C sc.names t (a x) Γ' Γ₁ ∧ Sub Γ' Γ₁ ∧ Tst C (n + 1) sc.names Γ₁ e (p x) ∧ (p x = true → Ev C (n + 1) sc.names Γ₁ elt (b x))) (hz : l.length ≤ sizeLine)
    (hturn : ∀ it acc env, compTurn (.ListComp elt [⟨t, iter, [e], 0⟩] sc cp) 0 it acc env = turnForm t iter [e] (emit elt) (.compLoop (.ListComp elt [⟨t, iter, [e], 0⟩] sc cp) 0 it acc env) it acc env)
    (hs : ∀ env x, foldedSetIterable iter env x = pure x) : Ev C (n + 1) nm Γ (.ListComp elt [⟨t, iter, [e], 0⟩] sc cp) (.lst ((l.filter p).map b)) :=
  Ev.comp hi ok hΓ (Itms.fil a b p l h) (by rw [List.length_map]; exact Nat.le_trans (List.length_filter_le _ _) hz) hturn hs
/-- the same, bound to a plain name -/
theorem Ex.mapa {α : Type} {I : Box} {y : Str} {py p : Pos} {r : List Stmt} {P : Out → Prop} {elt t iter : Expr} {sc : Scope} {cp : Pos} (a b : α → D) (l : List α) (Γ' : Gam) (hi : ItE C (n + 1) nm Γ iter (l.map a)) (ok : compOk nm sc = true) (hΓ : Cap sc Γ Γ')
    (h : ∀ x ∈ l, ∃ Γ₁, Asn C sc.names t (a x) Γ' Γ₁ ∧ Sub Γ' Γ₁ ∧ Ev C (n + 1) sc.names Γ₁ elt (b x)) (hz : l.length ≤ sizeLine)
    (hturn : ∀ it acc env, compTurn (.ListComp elt [⟨t, iter, [], 0⟩] sc cp) 0 it acc env = turnForm t iter [] (emit elt) (.compLoop (.ListComp elt [⟨t, iter, [], 0⟩] sc cp) 0 it acc env) it acc env)
    (hs : ∀ env x, foldedSetIterable iter env x = pure x) (hk : nm.lookup y = some .local)
    (hsw : ∀ env : Env, env.scope.kind = .function → env.kindOf y = some .local → swapsWith (.ListComp elt [⟨t, iter, [], 0⟩] sc cp) (some (.Name y py)) p.line env = pure true)
    (k : Ex C (n + 1) nm ((y, .lst (l.map b)) :: Γ) I r P) : Ex C (n + 1) nm Γ I (.Assign [.Name y py] (.ListComp elt [⟨t, iter, [], 0⟩] sc cp) p :: r) P :=
  Ex.asgc hi ok hΓ (Itms.map a b l h) (by simpa using hz) hturn hs hk rfl hsw k
theorem Ex.fila {α : Type} {I : Box} {y : Str} {py p : Pos} {r : List Stmt} {P : Out → Prop} {elt t iter e : Expr} {sc : Scope} {cp : Pos} (a b : α → D) (pp : α → Bool) (l : List α) (Γ' : Gam) (hi : ItE C (n + 1) nm Γ iter (l.map a)) (ok : compOk nm sc = true) (hΓ : Cap sc Γ Γ')
    (h : ∀ x ∈ l, ∃ Γ₁, Asn C sc.names t (a x) Γ' Γ₁ ∧ Sub Γ' Γ₁ ∧ Tst C (n + 1) sc.names Γ₁ e (pp x) ∧ (pp x = true → Ev C (n + 1) sc.names Γ₁ elt (b x))) (hz : l.length ≤ sizeLine)
    (hturn : ∀ it acc env, compTurn (.ListComp elt [⟨t, iter, [e], 0⟩] sc cp) 0 it acc env = turnForm t iter [e] (emit elt) (.compLoop (.ListComp elt [⟨t, iter, [e], 0⟩] sc cp) 0 it acc env) it acc env)
    (hs : ∀ env x, foldedSetIterable iter env x = pure x) (hk : nm.lookup y = some .local)
    (hsw : ∀ env : Env, env.scope.kind = .function → env.kindOf y = some .local → swapsWith (.ListComp elt [⟨t, iter, [e], 0⟩] sc cp) (some (.Name y py)) p.line env = pure true)
    (k : Ex C (n + 1) nm ((y, .lst ((l.filter pp).map b)) :: Γ) I r P) : Ex C (n + 1) nm Γ I (.Assign [.Name y py] (.ListComp elt [⟨t, iter, [e], 0⟩] sc cp) p :: r) P :=
  Ex.asgc hi ok hΓ (Itms.fil a b pp l h) (by rw [List.length_map]; exact Nat.le_trans (List.length_filter_le _ _) hz) hturn hs hk rfl hsw k

/-- whole numbers from 0 -/
noncomputable abbrev rng (k : Nat) : List Int := (List.range k).map fun (i : Nat) => (i : Int)
theorem upFrom_eq : ∀ (k : Nat) (a : Int), upFrom a k = (List.range k).map fun (i : Nat) => D.int (a + i)
  | 0, _ => rfl
  | k + 1, a => by
    rw [List.range_succ_eq_map]
    simp only [upFrom, List.map_cons, List.map_map, Int.natCast_zero, Int.add_zero]
    rw [upFrom_eq k (a + 1)]
    congr 1
    apply List.map_congr_left
    intro i _
    refine congrArg D.int ?_
    show a + 1 + (i : Int) = a + ((i + 1 : Nat) : Int)
    omega
theorem upFrom_rng (k : Nat) : upFrom 0 k = (rng k).map D.int := by
  rw [upFrom_eq, List.map_map]
  apply List.map_congr_left
  intro i _
  simp [Function.comp]
theorem ItE.rng {p p' : Pos} {e : Expr} {k : Nat} (hx : Ev C n nm Γ (.Name ("range" : Str) p') (.raw (.type "range"))) (h : Evs C n nm Γ [e] [.int (k : Nat)]) (hk : k < 2 ^ 62)
    (he : ∀ env, starEach [e] env = (false, eval e env) :: starEach [] env) : ItE C n nm Γ (.Call (.Name ("range" : Str) p') [e] [] p) ((Mine.rng k).map D.int) := by
  rw [← upFrom_rng]
  have := ItE.rng1 (p := p) hx h (by omega) (by omega) he
  simpa using this
theorem ItE.rngl {p p' : Pos} {e : Expr} {k : Int} {m : Nat} (hx : Ev C n nm Γ (.Name ("range" : Str) p') (.raw (.type "range"))) (h : Evs C n nm Γ [e] [.int k]) (hm : k = m) (hk : m < 2 ^ 62)
    (he : ∀ env, starEach [e] env = (false, eval e env) :: starEach [] env) : ItE C n nm Γ (.Call (.Name ("range" : Str) p') [e] [] p) ((Mine.rng m).map D.int) := by
  subst hm
  exact ItE.rng hx h hk he
theorem mem_rng {k : Nat} {x : Int} (h : x ∈ rng k) : 0 ≤ x ∧ x < k := by
  obtain ⟨i, hi, rfl⟩ := List.mem_map.mp h
  have := List.mem_range.mp hi
  omega

noncomputable def inD (d : D) (l : List D) : Bool := l.any fun e => eqD e d
noncomputable def inOk (d : D) (l : List D) : Bool := noraws l && l.all fun e => okD e d && Nat.ble (dep e) 100
theorem inOk_elim {d : D} {l : List D} (h : inOk d l = true) : noraws l = true ∧ ∀ e ∈ l, okD e d = true ∧ dep e ≤ 100 := by
  unfold inOk at h
  rw [Bool.and_eq_true, List.all_eq_true] at h
  refine ⟨h.1, fun e he => ?_⟩
  have := h.2 e he
  rw [Bool.and_eq_true] at this
  exact ⟨this.1, Nat.le_of_ble_eq_true this.2⟩
theorem Gl.inl (G : Gl C) {d : D} {l : List D} (h : inOk d l = true) : Cmp C .In d (.lst l) (inD d l) := Cmp.inl G.ok (inOk_elim h).1 (inOk_elim h).2
theorem Gl.ninl (G : Gl C) {d : D} {l : List D} (h : inOk d l = true) : Cmp C .NotIn d (.lst l) (!inD d l) := Cmp.ninl G.ok (inOk_elim h).1 (inOk_elim h).2
theorem Gl.int (G : Gl C) {d : D} {l : List D} (h : inOk d l = true) : Cmp C .In d (.tup l) (inD d l) := Cmp.int G.ok (inOk_elim h).1 (inOk_elim h).2
theorem Gl.nint (G : Gl C) {d : D} {l : List D} (h : inOk d l = true) : Cmp C .NotIn d (.tup l) (!inD d l) := Cmp.nint G.ok (inOk_elim h).1 (inOk_elim h).2
theorem Ev.to {e : Expr} {d d' : D} (h : Ev C n nm Γ e d) (q : d = d') : Ev C n nm Γ e d' := q ▸ h
theorem it1 {nm' : Names} {t elt : Expr} {d d' : D} {Γ' Γ₁ : Gam} (h1 : Asn C nm' t d Γ' Γ₁) (h2 : Sub Γ' Γ₁) (h3 : Ev C n nm' Γ₁ elt d') : ∃ Γ₁, Asn C nm' t d Γ' Γ₁ ∧ Sub Γ' Γ₁ ∧ Ev C n nm' Γ₁ elt d' := ⟨Γ₁, h1, h2, h3⟩
theorem it2 {nm' : Names} {t elt e : Expr} {d d' : D} {b : Bool} {Γ' Γ₁ : Gam} (h1 : Asn C nm' t d Γ' Γ₁) (h2 : Sub Γ' Γ₁) (h3 : Tst C n nm' Γ₁ e b) (h4 : b = true → Ev C n nm' Γ₁ elt d') : ∃ Γ₁, Asn C nm' t d Γ' Γ₁ ∧ Sub Γ' Γ₁ ∧ Tst C n nm' Γ₁ e b ∧ (b = true → Ev C n nm' Γ₁ elt d') := ⟨Γ₁, h1, h2, h3, h4⟩
theorem Tst.to {e : Expr} {b b' : Bool} (h : Tst C n nm Γ e b) (q : b = b') : Tst C n nm Γ e b' := q ▸ h
end Mine
namespace Mine
open PySem PySem.Calls PyProof.Rows PySem.W
variable {C : Cx} {n : Nat} {nm : Names} {Γ : Gam}

theorem reps_replicate {h : Heap} {own : Own} {d : D} {v : Value} (x : Rep h own d v) : ∀ k, Reps h own (List.replicate k d) (List.replicate k v)
  | 0 => rfl
  | k + 1 => ⟨v, _, rfl, x, reps_replicate x k⟩
theorem foldl_rep (v : Value) : ∀ (k : Nat) (acc : Array Value), List.foldl (fun x1 x2 => x1 ++ x2) acc (List.replicate k #[v]) = acc ++ (List.replicate k v).toArray
  | 0, acc => by simp
  | k + 1, acc => by
    rw [List.replicate_succ, List.foldl_cons, foldl_rep v k]
    apply Array.toList_inj.mp
    simp [List.replicate_succ]
theorem Op2.mull {d : D} {x : Int} (h0 : 0 ≤ x) (h1 : x ≤ 1000) : Op2 C .Mult (.lst [d]) (.int x) (.lst (List.replicate x.toNat d)) := by
  rintro A s own _ _ a w ⟨l, vs, rfl, no, ⟨k, hl⟩, hr⟩ ⟨u, rfl⟩
  obtain ⟨v, r, rfl, hv, hn⟩ := hr
  cases hn
  have e : List.foldl (fun x1 x2 => x1 ++ x2) #[] (List.replicate (if [v].toArray.isEmpty = true then 0 else x.toNat) [v].toArray) = (List.replicate x.toNat v).toArray := by
    have : (if [v].toArray.isEmpty = true then 0 else x.toNat) = x.toNat := by simp
    rw [this]
    have := foldl_rep v x.toNat #[]
    simpa using this
  have y : Step No s { s with heap := s.heap.push { cls := .type "list", data := .seq (List.replicate x.toNat v).toArray } } := .push (t := s.toks)
  have hm : #[v].size * x.toNat ≤ 1000 := by
    have e1 : #[v].size = 1 := rfl
    rw [e1]; omega
  have hlong : Builtin.List.listTooLong ([v].toArray.size * x.toNat) = false := by
    have h2 : x.toNat ≤ 1000 := by omega
    have e1 : [v].toArray.size = 1 := rfl
    simp only [Builtin.List.listTooLong, sizeLine, e1, Nat.one_mul]
    simp; omega
  refine wpAny_binaryOp_repeat_ref (T := "list") (U := "int") (by decide) ⟨_, hl, rfl⟩ (fun s' => typeIs_int s' x u) noFill_list_mul PySem.F.fills_int_mul PySem.F.slot_int_rmul repeat_list PySem.F.slot_int_index.lookup
    (call_meets PySem.F.slot_int_rmul (typeIs_int s x u) PySem.F.entry_int_rmul (PySem.F.args_int_rmul_2 _ _) (int___rmul___int_list x u l [v].toArray k)
      ⟨hl, rfl, ⟨_, hl, rfl⟩, call_meets PySem.F.slot_list_mul ⟨_, hl, rfl⟩ PySem.F.entry_list_mul (PySem.F.args_list_mul_2 _ _)
        (AutoListH.list___mul___list_int_3 l [v].toArray k x u (by simp [Builtin.List.listFitsIndex]; omega) (by omega) (by rw [hlong]; decide))
        ⟨hl, ?_⟩⟩)
  rw [e]
  exact ⟨y, _, _, rfl, w.new, ⟨0, Heap.get?_push_size _ rfl⟩, (reps_replicate hv _).stepN y⟩

theorem Ev.cutTo {e e2 : Expr} {p p' : Pos} {l : List D} {i : Int} {k : Nat} (h : Ev C n nm Γ e (.lst l)) (g : Ev C n nm Γ e2 (.int i)) (hi : i = (k : Nat)) (hz : l.length ≤ sizeLine) (ht : ∀ o r, letTemporaryGo e o r = pure ()) :
    Ev C n nm Γ (.Subscript e (.Slice none (some e2) none p) p') (.lst (l.take k)) := by
  subst hi
  rw [← cut_to]
  exact Ev.cutl h .none (.some g) hz ht
theorem Ev.cutFr {e e2 : Expr} {p p' : Pos} {l : List D} {i : Int} {k : Nat} (h : Ev C n nm Γ e (.lst l)) (g : Ev C n nm Γ e2 (.int i)) (hi : i = (k : Nat)) (hz : l.length ≤ sizeLine) (ht : ∀ o r, letTemporaryGo e o r = pure ()) :
    Ev C n nm Γ (.Subscript e (.Slice (some e2) none none p) p') (.lst (l.drop k)) := by
  subst hi
  rw [← cut_from]
  exact Ev.cutl h (.some g) .none hz ht
theorem Ev.cutMid {e e2 e3 : Expr} {p p' : Pos} {l : List D} {i j : Int} {k m : Nat} (h : Ev C n nm Γ e (.lst l)) (g : Ev C n nm Γ e2 (.int i)) (g3 : Ev C n nm Γ e3 (.int j)) (hi : i = (k : Nat)) (hj : j = (m : Nat)) (hz : l.length ≤ sizeLine) (ht : ∀ o r, letTemporaryGo e o r = pure ()) :
    Ev C n nm Γ (.Subscript e (.Slice (some e2) (some e3) none p) p') (.lst ((l.drop k).take (m - k))) := by
  subst hi; subst hj
  rw [← cut_mid]
  exact Ev.cutl h (.some g) (.some g3) hz ht
theorem ItE.to {e : Expr} {l l' : List D} (h : ItE C n nm Γ e l) (q : l = l') : ItE C n nm Γ e l' := q ▸ h
theorem Evs.to {e : List Expr} {l l' : List D} (h : Evs C n nm Γ e l) (q : l = l') : Evs C n nm Γ e l' := q ▸ h
theorem swaps_ok {elt : Expr} {gens : List Comprehension} {sc : Scope} {cp py : Pos} {y : Str} {ln : Nat} {env : Env} (h1 : env.scope.kind = .function) (h2 : env.kindOf y = some .local) (h3 : (py.line == cp.line && !(sc.names.any fun p => p.1 == y && (p.2 == .local || p.2 == .cell))) = true) :
    swapsWith (.ListComp elt gens sc cp) (some (.Name y py)) ln env = pure true := by
  have hb : env.blockKind = .function := by unfold Env.blockKind; rw [h1]; rfl
  show pure (env.blockKind == .function && env.kindOf y == some .local && py.line == cp.line && !(sc.names.any fun (n, k) => n == y && (k == .local || k == .cell))) = _
  rw [hb, h2]
  rw [Bool.and_eq_true] at h3
  have h4 : (!(sc.names.any fun (n, k) => n == y && (k == .local || k == .cell))) = true := h3.2
  rw [h3.1, h4]
  rfl
theorem swaps_no {elt : Expr} {gens : List Comprehension} {sc : Scope} {cp py : Pos} {y : Str} {ln : Nat} {env : Env} (h2 : env.kindOf y = some .cell) :
    swapsWith (.ListComp elt gens sc cp) (some (.Name y py)) ln env = pure false := by
  show pure (env.blockKind == .function && env.kindOf y == some .local && py.line == cp.line && !(sc.names.any fun (n, k) => n == y && (k == .local || k == .cell))) = _
  rw [h2]
  have : (some NameKind.cell == some NameKind.local) = false := by decide
  rw [this, Bool.and_false, Bool.false_and, Bool.false_and]
end Mine
namespace Mine
open PySem PySem.Calls PyProof.Rows PySem.W
variable {C : Cx} {n : Nat} {nm : Names} {Γ : Gam}

/-- a list of the frame's own, with these items -/
noncomputable def Bx (a : Addr) (ds : List D) : Box where
  I F h := F.own a ∧ F.mt a ∧ ¬ F.ret a ∧ ¬ (a = F.env.locals ∨ F.cellAt a) ∧ ∃ vs, PLst h a vs ∧ Reps h F.own ds vs
  st := by
    rintro F h h' k ho ⟨h1, h2, h3, h4, vs, ⟨m, hl⟩, hr⟩
    exact ⟨h1, h2, h3, h4, vs, ⟨m, k _ _ h4 rfl hl⟩, hr.mono (fun b o n q e => ⟨n, k b o (fun z => n (ho b z)) q e⟩) ds⟩
  ad := by
    rintro F h h' a' hn k ⟨h1, h2, h3, h4, vs, ⟨m, hl⟩, hr⟩
    exact ⟨.inl h1, .inl h2, h3, h4, vs, ⟨m, k _ _ hl⟩, (hr.add hn).mono (fun b o n _ e => ⟨n, k b o e⟩) ds⟩
/-- an expression that makes a list anew -/
structure EvN (C : Cx) (n : Nat) (nm : Names) (Γ : Gam) (e : Expr) (ds : List D) : Prop where
  go : ∀ (F : Fr1) A s, F.nm = nm → Aok n A → Fm C F Γ s → wpAny (model C.prog C.w) A (eval e F.env)
    (fun v s' => Step No s s' ∧ ∃ a vs h₁, v = .ref a ∧ s.heap.get? a = none ∧ PLst s'.heap a vs ∧ h₁.get? a = none ∧ Reps h₁ F.own ds vs ∧ ∀ b o, h₁.get? b = some o → s'.heap.get? b = some o) Bot s
theorem Step.off_new {s s' : Shared} (y : Step No s s') {a : Addr} (h : s'.heap.get? a = none) : s.heap.get? a = none := by
  cases e : s.heap.get? a with
  | none => rfl
  | some o => rw [y.all _ _ e] at h; cases h
theorem EvN.lst {es : List Expr} {p : Pos} {ds : List D} (h : Evs C n nm Γ es ds) (z : ds.length ≤ sizeLine) : EvN C n nm Γ (.List es p) ds := ⟨fun F A s q a f => by
  refine wpAny_List (bot_mono (h.go F A s _ q a f) fun vs s₁ ⟨y, x⟩ => ⟨by rw [x.length]; exact z, y.trans .push, _, vs, s₁.heap, rfl, y.off_new fresh_none, ⟨0, Heap.get?_push_size _ rfl⟩, fresh_none, x, fun b o e => Heap.get?_push_of_some _ e⟩)⟩
theorem EvN.copy {x : Str} {p p' : Pos} {e : Expr} {ds : List D} (hx : Ev C (n + 1) nm Γ (.Name x p') (.raw (.type "list"))) (ha : Ev C (n + 1) nm Γ e (.lst ds)) (z : ds.length ≤ sizeLine)
    (he : ∀ env, starEach [e] env = (false, eval e env) :: starEach [] env) : EvN C (n + 1) nm Γ (.Call (.Name x p') [e] [] p) ds := ⟨fun F A s q a f => by
  show wpAny _ _ (eval (.Name x p') F.env >>= fun fv => callWith p fv [] (backTo p (starEach [e] F.env)) (backToKw p (keywordEach [] F.env))) _ _ s
  refine wpAny_bind (bot_mono (hx.go F A s q a f) fun v s₁ ⟨y, z₁⟩ => ?_)
  cases z₁
  refine PyProof.Rows.callWith_type1 (bot_mono ((Evs.cons ha Evs.nil he).go F A s₁ p q a (f.step y)) fun vs s₂ ⟨y₂, hr⟩ => ?_) (he _) rfl
  obtain ⟨v, r, rfl, ⟨b, ws, rfl, no, ⟨m, hl⟩, hr⟩, hn⟩ := hr
  cases hn
  refine call_list_seq b (.inl rfl) hl rfl rfl (fun h' c' k g => ?_) (by simpa [hr.length] using z)
  have y₃ : Step No s₂ { s₂ with heap := h' } := .ext k
  exact ⟨(y.trans y₂).trans y₃, _, ws, s₂.heap, rfl, (y.trans y₂).off_new fresh_none, ⟨_, g⟩, fresh_none, hr, k⟩⟩

theorem cell_other {F : Fr1} {s : Shared} (f : Fm C F Γ s) {a : Addr} (h : s.heap.get? a = none) : ¬ (a = F.env.locals ∨ F.cellAt a) := fun e => f.wd.off h (own_places f a e)
/-- a list is made, and bound to a plain name; the rest of the function works on it -/
theorem Ex.new {x : Str} {p p' : Pos} {e : Expr} {r : List Stmt} {ds : List D} {P : Out → Prop} (hP : ∀ Γ I, ¬ P (.nxt Γ I)) (h : EvN C n nm Γ e ds) (hk : nm.lookup x = some .local) 
    (k : ∀ a, Ex C n nm ((x, .raw (.ref a)) :: Γ) (Bx a ds) r P) (hs : ∀ env : Env, env.scope.kind = .function → env.kindOf x = nm.lookup x → swapsWith e (some (.Name x p')) p.line env = pure false) :
    Ex C n nm Γ noB (.Assign [.Name x p'] e p :: r) P := ⟨fun F A s q a f i => by
  refine wpAny_execs_cons (wpAny_Assign_Name (bot_mono (h.go F A s q a f) fun v s₁ ⟨y, b, vs, h₁, e1, e2, e3, e4, e5, e6⟩ => ?_) (hs _ f.kind (by subst q; rw [hk, kindOf_of f hk (by decide)])))
  subst e1
  have f₁ : Fm C (F.add b) Γ s₁ := by
    obtain ⟨m, z⟩ := id e3
    exact f.add e2 y ⟨_, z⟩
  have i₁ : (Bx b ds).I (F.add b) s₁.heap := ⟨.inr rfl, .inr rfl, fun z => f.wd.off e2 (f.reto _ z), cell_other f e2, vs, e3, (e5.add e4).mono (fun b o n _ e => ⟨n, e6 b o e⟩) ds⟩
  refine wpAny_mono (store_ok (F := F.add b) (E := Bot) (d := .raw (.ref b)) f₁ (.inl (q ▸ hk)) rfl i₁) (fun _ s₂ ⟨y₂, f₂, i₂⟩ => ?_) fun _ _ x => x
  refine bot_mono ((k b).go (F.add b) A s₂ q a f₂ i₂) fun fl s₃ ⟨y₃, o, ho, hf⟩ => ?_
  refine ⟨y.non.drop (y₂.trans y₃) fun c o nc e => ?_, ?_⟩
  · rintro (z | rfl)
    · exact nc z
    · rw [e2] at e; cases e
  · cases o with
    | nxt _ _ => exact (hP _ _ ho).elim
    | ret d =>
      cases fl with
      | ret v => exact ⟨.ret d, ho, hf⟩
      | _ => exact hf.elim⟩

theorem Fm.touch {F : Fr1} {s : Shared} {h' : Heap} {l : Addr} {vs vs' : List Value} (f : Fm C F Γ s) (hl : PLst s.heap l vs) (ho : F.own l) (hm : F.mt l) (hs : Heap.SameBut l s.heap h') (hl' : PLst h' l vs') : Step F.mt s { s with heap := h' } ∧ Fm C F Γ { s with heap := h' } := by
  have kp : ∀ b o, b ≠ l → s.heap.get? b = some o → h'.get? b = some o := fun b o n e => (hs.2 b n).trans e
  refine ⟨.heap (fun b o n e => kp b o (fun q => n (q ▸ hm)) e) fun b o e => ?_, f.samebut hl ho hs ⟨_, hl'⟩⟩
  by_cases q : b = l
  · subst q; obtain ⟨_, z⟩ := hl'; exact ⟨_, z⟩
  · exact ⟨o, kp b o q e⟩
/-- x.append(e) -/
theorem Ex.app {x : Str} {p p' p1 ap : Pos} {e : Expr} {r : List Stmt} {ds : List D} {a : Addr} {d : D} {P : Out → Prop} (hx : Γ.lookup x = some (.raw (.ref a))) (hk : nm.lookup x = some .local) (hd : (x == ("__debug__" : Str)) = false) (h : Ev C n nm Γ e d) (hz : ds.length ≤ sizeLine)
    (k : Ex C n nm Γ (Bx a (ds ++ [d])) r P) (hs : ∀ env, starEach [e] env = (false, eval e env) :: starEach [] env)
    (he : ∀ env, ∃ pl, eval (.Call (.Attribute (.Name x p1) ("append" : Str) ap) [e] [] p) env = (do
      let ov ← eval (.Name x p1) env
      standAt ap.atName
      let (f, first) ← holding [ov] (getMethod ov ("append" : Str) pl)
      callWith p f first (backTo p (starEach [e] env)) [])) : Ex C n nm Γ (Bx a ds) (.Expr (.Call (.Attribute (.Name x p1) ("append" : Str) ap) [e] [] p) p' :: r) P := ⟨fun F A s q ak f i => by
  obtain ⟨pl, he⟩ := he F.env
  refine wpAny_execs_cons (wpAny_Expr (MethodCall_ (pl := pl) (bot_mono ((Ev.loc (p := p1) hx hk hd).go F A s q ak f) fun v s₁ ⟨y, z⟩ => ?_) he) (by unfold interactive; rw [f.kind]; rfl) rfl)
  cases z
  have st₁ : ∀ {s s'}, Step No s s' → Fm C F Γ s → (Bx a ds).I F s.heap → (Bx a ds).I F s'.heap := fun y f i => (Bx a ds).st F _ _ (fun b o _ _ e => y.all b o e) (own_places f) i
  have i₁ := st₁ y f i
  have hl₁ : ∃ vs, PLst s₁.heap a vs := let ⟨_, _, _, _, vs, hl, _⟩ := i₁; ⟨vs, hl⟩
  obtain ⟨vs₁, m₁, hl₁⟩ := hl₁
  refine getMethod_list_append hl₁ rfl rfl (callWith_method1 (bot_mono ((Evs.cons h Evs.nil hs).go F A s₁ p q ak (f.step y)) fun ws s₂ ⟨y₂, hr⟩ => ?_) (hs _) rfl)
  obtain ⟨v, r', rfl, hv, hn⟩ := hr
  cases hn
  have f₂ := f.step (y.trans y₂)
  obtain ⟨h1, h2, h3, h4, vs, hl, hr⟩ := st₁ y₂ (f.step y) i₁
  refine append_ok hl (by rw [hr.length]; exact hz) fun h' hl' hs' => ?_
  obtain ⟨y₃, f₃⟩ := f₂.touch hl h1 h2 hs' hl'
  have i₃ : (Bx a (ds ++ [d])).I F h' := ⟨h1, h2, h3, h4, vs ++ [v], hl', (hr.step y₃ f.mto).append (.one (hv.step y₃ f.mto))⟩
  exact bot_mono (k.go F A { s₂ with heap := h' } q ak f₃ i₃) fun fl s₃ ⟨y₄, w⟩ => ⟨(((y.trans y₂).non).trans y₃).trans y₄, w⟩⟩
theorem reps_set {h : Heap} {own : Own} {d : D} {v : Value} (x : Rep h own d v) : ∀ {l : List D} {vs : List Value} (i : Nat), Reps h own l vs → Reps h own (l.set i d) (vs.set i v)
  | [], vs, i, z => by cases z; rfl
  | e :: l, vs, 0, ⟨w, r, q, z1, z2⟩ => by subst q; exact ⟨v, r, rfl, x, z2⟩
  | e :: l, vs, i + 1, ⟨w, r, q, z1, z2⟩ => by subst q; exact ⟨w, r.set i v, rfl, z1, reps_set x i z2⟩
/-- an item of a list of the plain kind is set -/
theorem setItem_ok {prog : Program} {w : World} {A : Around} {E : Value → Shared → Prop} {s : Shared} {l : Addr} {vs : List Value} {k : Int} {t : Tok} {v : Value} {Q : Unit → Shared → Prop} (hl : PLst s.heap l vs) (h0 : 0 ≤ k) (hj : k < vs.length) (hz : k < 2 ^ 63)
    (hQ : ∀ h', PLst h' l (vs.set k.toNat v) → Heap.SameBut l s.heap h' → Q () { s with heap := h' }) : wpAny (model prog w) A (setItem (.ref l) (.int k t) v) Q E s := by
  obtain ⟨m, ho⟩ := id hl
  have hi := hl.is
  unfold setItem
  try with_reducible refine wpAny_holding ?_
  first | refine wpAny_bind (wpAny_pure ?_) | skip
  refine wpAny_bind (wpAny_sequenceKey hi.typeIs (by decide) ?_)
  refine wpAny_bind (wpAny_callSpecial?_slot (name := Str.ofString "__setitem__") hi.typeIs PySem.slot_list_setitem
    (wpAny_call_entry PySem.slot_list_setitem hi.typeIs PySem.entry_list_setitem ?_ (PySem.args_list_setitem _ _ _)))
  show wpAny _ _ (Builtin.List.listSubscript? (.int k t) >>= _) _ _ s
  refine wpAny_bind (wpAny_listSubscript_int (fitsIndex_of h0 hz) ?_)
  clear hz
  obtain ⟨j, rfl⟩ := Int.eq_ofNat_of_zero_le h0
  have hj' : j < vs.toArray.size := by simp; omega
  have hx' : vs.toArray[j]? = some vs.toArray[j] := Array.getElem?_eq_getElem hj'
  show wpAny _ _ ((seqItemAt l j >>= fun r => pure (r.map (j, ·))) >>= _) _ _ s
  refine wpAny_bind (wpAny_bind (wpAny_seqItemAt ho rfl (wpAny_pure ?_)))
  rw [hx']
  show wpAny _ _ (setSeqItemAt l j v >>= _) _ _ s
  have e : ∃ k, Obj.mapSeq (·.setIfInBounds j v) { cls := .type "list", data := .seq vs.toArray m } = { cls := .type "list", data := .seq (vs.set j v).toArray k } := by
    refine ⟨m, ?_⟩
    simp [Obj.mapSeq]
  obtain ⟨k, e⟩ := e
  have hfin : PLst (s.heap.update l (Obj.mapSeq (·.setIfInBounds j v))) l (vs.set j v) := ⟨k, by rw [← e]; exact Heap.get?_update_self _ ho rfl⟩
  refine wpAny_bind (wpAny_setSeqItemAt ho rfl ?_)
  first
    | exact wpAny_bind (wpAny_pure (wpAny_pure ⟨.none, rfl, wpAny_pure (hQ _ hfin (Heap.SameBut.update ..))⟩))
    | exact wpAny_pure ⟨.none, rfl, wpAny_pure (hQ _ hfin (Heap.SameBut.update ..))⟩
/-- x[i] = e -/
theorem Ex.seti {x : Str} {p p' p1 : Pos} {i e : Expr} {r : List Stmt} {ds : List D} {a : Addr} {d : D} {j : Int} {P : Out → Prop} (hx : Γ.lookup x = some (.raw (.ref a))) (hk : nm.lookup x = some .local) (hd : (x == ("__debug__" : Str)) = false) (h : Ev C n nm Γ e d) (g : Ev C n nm Γ i (.int j)) (j0 : 0 ≤ j) (j1 : j < ds.length) (jz : ds.length < 2 ^ 62)
    (k : Ex C n nm Γ (Bx a (ds.set j.toNat d)) r P) (hs : ∀ env, swapsWith e (some (.Subscript (.Name x p1) i p')) p.line env = pure false) : Ex C n nm Γ (Bx a ds) (.Assign [.Subscript (.Name x p1) i p'] e p :: r) P := ⟨fun F A s q ak f ii => by
  refine wpAny_execs_cons (wpAny_Assign_Subscript (bot_mono (h.go F A s q ak f) fun v s₁ ⟨y, z⟩ => bot_mono ((Ev.loc (p := p1) hx hk hd).go F A s₁ q ak (f.step y)) fun ov s₂ ⟨y₂, z₂⟩ => bot_mono (g.go F A s₂ q ak (f.step (y.trans y₂))) fun iv s₃ ⟨y₃, z₃⟩ => ?_) (hs _))
  cases z₂
  obtain ⟨t, rfl⟩ := z₃
  have yy := (y.trans y₂).trans y₃
  obtain ⟨h1, h2, h3, h4, vs, hl, hr⟩ := (Bx a ds).st F _ _ (fun b o _ _ e => yy.all b o e) (own_places f) ii
  have hlen := hr.length
  obtain ⟨jn, rfl⟩ := Int.eq_ofNat_of_zero_le j0
  refine setItem_ok hl j0 (by omega) (by omega) fun h' hl' hs' => ?_
  obtain ⟨y₄, f₄⟩ := (f.step yy).touch hl h1 h2 hs' hl'
  have i₄ : (Bx a (ds.set jn d)).I F h' := ⟨h1, h2, h3, h4, vs.set jn v, hl', reps_set (((z.stepN y₂).stepN y₃).step y₄ f.mto) jn (hr.step y₄ f.mto)⟩
  exact bot_mono (k.go F A { s₃ with heap := h' } q ak f₄ i₄) fun fl s₅ ⟨y₅, w⟩ => ⟨(yy.non.trans y₄).trans y₅, w⟩⟩
/-- the list is given back -/
theorem Ex.retb {x : Str} {p p' : Pos} {r : List Stmt} {ds : List D} {a : Addr} {P : Out → Prop} (hx : Γ.lookup x = some (.raw (.ref a))) (hk : nm.lookup x = some .local) (hd : (x == ("__debug__" : Str)) = false) (k : P (.ret (.lst ds))) :
    Ex C n nm Γ (Bx a ds) (.Return (some (.Name x p')) p :: r) P := ⟨fun F A s q ak f ii => by
  refine wpAny_execs_cons (wpAny_Return_some (bot_mono ((Ev.loc (p := p') hx hk hd).go F A s q ak f) fun v s₁ ⟨y, z⟩ => ?_))
  cases z
  obtain ⟨h1, h2, h3, h4, vs, hl, hr⟩ := (Bx a ds).st F _ _ (fun b o _ _ e => y.all b o e) (own_places f) ii
  exact ⟨y.non, _, k, a, vs, rfl, h3, hl, hr.weak f.reto⟩⟩
end Mine
namespace Mine
open PySem PySem.Calls PyProof.Rows PySem.W
variable {C : Cx} {n : Nat} {nm : Names} {Γ : Gam}

/-- a while loop -/
theorem Ex.while_ {I : Box} {t : Expr} {body r : List Stmt} {p : Pos} {P : Out → Prop} (J : Nat → Gam → Box → Prop) (k₀ : Nat) (j : J k₀ Γ I)
    (turn : ∀ k Γ I, J k Γ I → ∃ b, Tst C n nm Γ t b ∧ (b = true → Ex C n nm Γ I body (fun o => match o with | .nxt Γ₂ I₂ => ∃ m Γ', m < k ∧ J m Γ' I₂ ∧ Sub Γ' Γ₂ | .ret d => P (.ret d))) ∧ (b = false → Ex C n nm Γ I r P)) :
    Ex C n nm Γ I (.While t body [] p :: r) P := ⟨fun F A s q a f i => by
  refine wpAny_execs_cons (wpAny_While (codeAny_whileLoop (fun k s' => ∃ Γ I, J k Γ I ∧ Fm C F Γ s' ∧ I.I F s'.heap ∧ Step F.mt s s') ?_ k₀ ⟨Γ, I, j, f, i, .refl ..⟩))
  rintro k s₁ ⟨Γ, I, hj, f, i, st⟩
  obtain ⟨b, h1, h2, h3⟩ := turn k Γ I hj
  refine wpAny_mono (h1.go F A s₁ q a f) (fun v s₂ ⟨y, e⟩ => ?_) fun _ _ e => e.elim
  subst e
  have f₂ := f.step y
  have i₂ : I.I F s₂.heap := I.st F _ _ (fun b o _ _ e => y.all b o e) (own_places f) i
  cases v with
  | true =>
    show wpAny _ _ _ _ _ _
    refine wpAny_mono ((h2 rfl).go F A s₂ q a f₂ i₂) (fun fl s₃ ⟨y₃, o, ho, hf⟩ => ?_) fun _ _ e => e.elim
    have st₃ : Step F.mt s s₃ := (st.trans y.non).trans y₃
    cases o with
    | nxt Γ₂ I₂ =>
      obtain ⟨m, Γ', hm, hj', hs⟩ := ho
      cases fl with
      | next => exact ⟨m, hm, Γ', I₂, hj', hf.1.sub hs, hf.2, st₃⟩
      | _ => exact hf.elim
    | ret d =>
      cases fl with
      | ret v => exact ⟨st₃, _, ho, hf⟩
      | _ => exact hf.elim
  | false =>
    show wpAny _ _ _ _ _ _
    refine wpAny_execs_nil ?_
    exact bot_mono ((h3 rfl).go F A s₂ q a f₂ i₂) fun fl s₃ ⟨y₃, w⟩ => ⟨(st.trans y.non).trans y₃, w⟩⟩

theorem Cal.dvm {a b : Int} (h : b ≠ 0) (k : b.natAbs < 1073741824) : Cal C (n + 1) (.builtin "divmod") [.int a, .int b] (.tup [.int (a.fdiv b), .int (a.fmod b)]) := fun A s own vs ak w hr => by
  obtain ⟨_, _, rfl, ⟨t, rfl⟩, _, _, rfl, ⟨u, rfl⟩, hn⟩ := hr
  cases hn
  refine divmod_int h ⟨.push, _, [_, _], rfl, w.new, ⟨0, Heap.get?_push_size _ rfl⟩, ⟨_, _, rfl, ⟨_, rfl⟩, _, _, rfl, ⟨_, rfl⟩, rfl⟩⟩ (.inl (PyProof.noPylong_small k))

/-! bytes -/
theorem Op2.addb {b c : Array UInt8} (h : b.size + c.size ≤ 16777216) : Op2 C .Add (.byt b) (.byt c) (.byt (b ++ c)) := by
  rintro A s own _ _ _ w ⟨t, rfl⟩ ⟨u, rfl⟩
  exact wpAny_with_toks (Nat.le_refl _) (KBy.add_bytes h fun t' k hk => ⟨.toks, _, rfl⟩)
theorem Ev.subb {e i : Expr} {p : Pos} {l : List UInt8} {k : Int} (h : Ev C (n + 1) nm Γ e (.byt l.toArray)) (g : Ev C (n + 1) nm Γ i (.int k)) (k0 : 0 ≤ k) (k1 : k < l.length) (kz : l.length ≤ 1099511627776)
    (hs : ∀ o j, subscripted i false o j = operate [o, j] (getItem o j)) : Ev C (n + 1) nm Γ (.Subscript e i p) (.int (l.getD k.toNat 0).toNat) := ⟨fun F A s q a f => by
  refine Subscript_ (bot_mono (h.go F A s q a f) fun v s₁ ⟨y, z⟩ => bot_mono (g.go F A s₁ q a (f.step y)) fun j s₂ ⟨y₂, z₂⟩ => ?_)
  obtain ⟨t, rfl⟩ := z₂
  obtain ⟨u, rfl⟩ := z
  exact tail_any (typeIs_bytes _ _ _) FB.slot_bytes_getitem.lookup (getItem_bytes kz k0 k1 ⟨(y.trans y₂).trans .toks, _, rfl⟩) (hs _ _)⟩
/-- b[i:j] of bytes, not the whole -/
theorem Ev.cutb {e : Expr} {lo hi : Option Expr} {i j : Option Int} {p p' : Pos} {b : Array UInt8} (h : Ev C n nm Γ e (.byt b)) (hlo : Pt C n nm Γ lo i) (hhi : Pt C n nm Γ hi j) (hw : KBy.whole b i j = false) (hz : (KBy.picked b i j).size ≤ sizeLine) (ht : ∀ o r, letTemporaryGo e o r = pure ()) :
    Ev C n nm Γ (.Subscript e (.Slice lo hi none p) p') (.byt (KBy.picked b i j)) := ⟨fun F A s q a f => by
  refine wpAny_Subscript_Slice (T := "bytes") FB.slot_bytes_getitem.lookup (bot_mono (h.go F A s q a f) fun v s₁ ⟨y, z⟩ => wpAny_Slice (bot_mono (hlo.ev F A s₁ q a (f.step y)) fun v₁ s₂ ⟨y₂, z₂⟩ => bot_mono (hhi.ev F A s₂ q a (f.step (y.trans y₂))) fun v₂ s₃ ⟨y₃, z₃⟩ => ?_)) ht
  rw [evalPart_none]
  obtain ⟨t, rfl⟩ := z
  refine wpAny_pure ⟨typeIs_bytes _ _ _, getItem_meets (typeIs_bytes _ _ _) (by decide) FB.slot_bytes_getitem FB.entry_bytes_getitem (FB.args_bytes_getitem_2 _ _) (KBy.meets_slice b t _ z₂ z₃ hw) ⟨Heap.IsSliceOf.new _ _ _ _, hz, ?_⟩⟩
  exact ⟨((y.trans y₂).trans y₃).trans .push, _, rfl⟩⟩
/-- x[i:j] of a text -/
theorem Ev.cuts {e : Expr} {lo hi : Option Expr} {i j : Option Int} {p p' : Pos} {x z : Str} (h : Ev C n nm Γ e (.str x)) (hlo : Pt C n nm Γ lo i) (hhi : Pt C n nm Γ hi j)
    (hm : ∀ t l u, l.map (·.1) = i → u.map (·.1) = j → sliceMade x t l u none = .val (.str z t) ∨ sliceMade x t l u none = .str z) (hz : z.length ≤ sizeLine) (ht : ∀ o r, letTemporaryGo e o r = pure ()) :
    Ev C n nm Γ (.Subscript e (.Slice lo hi none p) p') (.str z) := ⟨fun F A s q a f => by
  refine wpAny_Subscript_str_slice (bot_mono (h.go F A s q a f) fun v s₁ ⟨y, z⟩ => bot_mono (hlo.ev F A s₁ q a (f.step y)) fun v₁ s₂ ⟨y₂, z₂⟩ => bot_mono (hhi.ev F A s₂ q a (f.step (y.trans y₂))) fun v₂ s₃ ⟨y₃, z₃⟩ => ?_) ht
  obtain ⟨t, rfl⟩ := z
  have pt : ∀ {v k}, IsPart v k → ∃ l, v = partValue l ∧ l.map (·.1) = k := fun h => by
    cases h with
    | none => exact ⟨none, rfl, rfl⟩
    | int i t => exact ⟨some (i, t), rfl, rfl⟩
  obtain ⟨l, e1, e2⟩ := pt z₂
  obtain ⟨u, e3, e4⟩ := pt z₃
  refine ⟨x, t, l, u, rfl, e1, e3, ?_⟩
  have yy := (y.trans y₂).trans y₃
  rcases hm t l u e2 e4 with h | h <;> rw [h]
  · exact ⟨yy.trans (.push (t := s₃.toks)), _, rfl⟩
  · exact ⟨hz, yy.trans .push, _, rfl⟩⟩
theorem Ex.sub {Γ' : Gam} {I : Box} {ss : List Stmt} {P : Out → Prop} (h : Ex C n nm Γ' I ss P) (k : Sub Γ' Γ) : Ex C n nm Γ I ss P := ⟨fun F A s q a f i => h.go F A s q a (f.sub k) i⟩
theorem Ev.calF {x : Str} {p p' : Pos} {e : Expr} {es : List Expr} {f : Addr} {ps : List Str} {body : List Stmt} {sc : Scope} {ds : List D} {d : D} {k : Nat} (hx : Ev C n nm Γ (.Name x p') (.raw (.ref f))) (ha : Evs C n nm Γ (e :: es) ds) (hi : IsFn C f ps body sc) (hf : Fn C k f ds d) (hk : k + 1 ≤ n)
    (he : ∀ env, starEach (e :: es) env = (false, eval e env) :: starEach es env) : Ev C n nm Γ (.Call (.Name x p') (e :: es) [] p) d := by
  obtain ⟨o, fd, ho, hd, _⟩ := hi.ex
  exact Ev.calf hx ha ho hd hf hk he
noncomputable def wbody : List Stmt → List Stmt
  | .While _ b _ _ :: _ => b
  | .For _ _ b _ _ :: _ => b
  | _ => []
end Mine
namespace Mine
open PySem PySem.Calls PyProof.Rows PySem.W
variable {C : Cx} {n : Nat} {nm : Names} {Γ : Gam}

theorem Wd.up {own : Own} {s : Shared} (w : Wd C own s) (h : 0 < s.toks) : Wd C.up own s := ⟨w.base, w.nown, w.oal, h⟩
theorem Fm.up {F : Fr1} {s : Shared} (f : Fm C F Γ s) (h : 0 < s.toks) : Fm C.up F Γ s := ⟨f.wd.up h, f.mto, f.reto, f.kind, f.co, f.nms, f.glob, f.blt, f.mtl, f.mtc, f.ns, f.cel, f.inj⟩
theorem IsFn.up {f : Addr} {ps : List Str} {body : List Stmt} {sc : Scope} (h : IsFn C f ps body sc) : IsFn C.up f ps body sc := ⟨h.ex⟩
theorem Gl.up (G : Gl C) : Gl C.up := ⟨⟨G.ok.g, G.ok.b, G.ok.lim, G.ok.bi, G.ok.nb⟩, G.g⟩
/-- an expression that draws a token -/
structure EvP (C : Cx) (n : Nat) (nm : Names) (Γ : Gam) (e : Expr) (d : D) : Prop where
  go : ∀ (F : Fr1) A s, F.nm = nm → Aok n A → Fm C F Γ s →
  wpAny (model C.prog C.w) A (eval e F.env) (fun v s' => Step No s s' ∧ 0 < s'.toks ∧ Rep s'.heap F.own d v) Bot s
theorem EvP.int {i k p} : EvP C n nm Γ (.Constant (.int i) k p) (.int i) := .mk fun _ _ _ _ _ _ => wpAny_Constant_int ⟨.toks, Nat.succ_pos _, _, rfl⟩
theorem EvP.bin {l r : Expr} {op : Operator} {p : Pos} {a b d : D} (hl : Ev C (n + 1) nm Γ l a) (hr : EvP C (n + 1) nm Γ r b) (ho : Op2 C op a b d) : EvP C (n + 1) nm Γ (.BinOp l op r p) d := .mk fun F A s e a f => by
  refine wpAny_BinOp (bot_mono (hl.go F A s e a f) fun v s₁ ⟨y, x⟩ => bot_mono (hr.go F A s₁ e a (f.step y)) fun v₂ s₂ ⟨y₂, h, x₂⟩ => bot_mono (ho A s₂ F.own v v₂ (a.le (by omega)) (f.wd.stepN (y.trans y₂)) (x.stepN y₂) x₂) fun v₃ s₃ ⟨y₃, x₃⟩ => ⟨(y.trans y₂).trans y₃, Nat.lt_of_lt_of_le h y₃.tk, x₃⟩)
theorem EvP.to {e : Expr} {d d' : D} (h : EvP C n nm Γ e d) (q : d = d') : EvP C n nm Γ e d' := q ▸ h
noncomputable def FnP (C : Cx) (n : Nat) (f : Addr) (ds : List D) (d : D) : Prop := ∀ A s (own : Own) vs, Aok (n + 1) A → Wd C own s → Reps s.heap own ds vs →
  codeAny (model C.prog C.w) A (.call (.ref f) ⟨vs, []⟩) (fun r s' => ∃ v, r = .ok (.ret v) ∧ Step No s s' ∧ 0 < s'.toks ∧ Rep s'.heap own d v) s
/-- a body that draws a token and gives d back -/
structure ExP (C : Cx) (n : Nat) (nm : Names) (Γ : Gam) (ss : List Stmt) (d : D) : Prop where
  go : ∀ (F : Fr1) A s, F.nm = nm → Aok n A → Fm C F Γ s →
  wpAny (model C.prog C.w) A (execs ss F.env) (fun fl s' => Step F.mt s s' ∧ 0 < s'.toks ∧ ∃ v, fl = .ret v ∧ Rep s'.heap F.ret d v) Bot s
theorem ExP.asg {x : Str} {p p' : Pos} {e : Expr} {r : List Stmt} {d d' : D} (h : EvP C n nm Γ e d) (hk : nm.lookup x = some .local ∨ nm.lookup x = some .cell)
    (k : Ex C.up n nm ((x, d) :: Γ) noB r (fun o => match o with | .ret e => e = d' | _ => False)) (hs : ∀ env : Env, env.scope.kind = .function → env.kindOf x = nm.lookup x → swapsWith e (some (.Name x p')) p.line env = pure false) : ExP C n nm Γ (.Assign [.Name x p'] e p :: r) d' := .mk fun F A s q a f => by
  refine wpAny_execs_cons (wpAny_Assign_Name (bot_mono (h.go F A s q a f) fun v s₁ ⟨y, hp, z⟩ => ?_) (hs _ f.kind (by subst q; rcases hk with e | e <;> rw [e, kindOf_of f e (by decide)])))
  refine wpAny_mono (store_ok (E := Bot) (I := noB) (f.step y) (q ▸ hk) z trivial) (fun _ s₂ ⟨y₂, f₂, i₂⟩ => ?_) fun _ _ x => x
  have hp₂ : 0 < s₂.toks := Nat.lt_of_lt_of_le hp y₂.tk
  refine bot_mono (k.go F A s₂ q a (f₂.up hp₂) trivial) fun fl s₃ ⟨y₃, o, ho, hf⟩ => ⟨(y.non.trans y₂).trans y₃, Nat.lt_of_lt_of_le hp₂ y₃.tk, ?_⟩
  cases o with
  | nxt _ _ => exact ho.elim
  | ret e =>
    cases fl with
    | ret v => subst ho; exact ⟨v, rfl, hf⟩
    | _ => exact hf.elim
theorem Fn.introP {f : Addr} {ps : List Str} {body : List Stmt} {sc : Scope} {ds : List D} {d : D} (O : C.Ok) (hf : IsFn C f ps body sc) (hk : fnOk sc ps = true) (hl : ps.length = ds.length)
    (h : ExP C n sc.names (pushes ps ds []) body d) : FnP C n f ds d := fun A s own vs a w hr => by
  obtain ⟨o, fd, ho, hd, rfl, hbody, hclo, hgl, hbl, hcode, hbind⟩ := hf.ex
  unfold fnOk at hk
  simp only [Bool.and_eq_true, Bool.not_eq_true', beq_iff_eq] at hk
  obtain ⟨⟨⟨⟨k1, k2⟩, k3⟩, k4⟩, k5⟩ := hk
  have hnf : ∀ p ∈ fd.scope.names, p.2 ≠ .free := fun p hp => by simpa using List.all_eq_true.mp k4 p hp
  refine codeAny_call_function (a.room) (w.base _ _ ho) hd k2 k3 hbody (hcode.keeps w.base) ?_
  rw [hbind vs (by rw [hr.length, hl])]
  refine wpAny_pure (newEnv_ok fun L pre h' m => ?_)
  rw [hclo, hgl, hbl]
  have f₀ := m.fn (env := newEnv fd.scope L mainGlobals (pre ++ []) (fd.qualname ++ ".<locals>.") (some f) fd.code none builtinsNs) w k1 k2 rfl rfl rfl rfl (List.append_nil _) hnf
  have y₀ : Step No s { s with heap := h' } := .ext m.keep
  have hr' : Reps h' (fun b => own b ∨ (b = L ∨ preA pre b)) ds vs := hr.mono (fun b o n _ e => ⟨fun q => q.elim n fun q => (by rw [m.fresh q] at e; cases e), m.keep b o e⟩) ds
  refine bot_mono (storeAll_ok (F := { env := newEnv fd.scope L mainGlobals (pre ++ []) (fd.qualname ++ ".<locals>.") (some f) fd.code none builtinsNs, nm := fd.scope.names, own := fun b => own b ∨ (b = L ∨ preA pre b), mt := fun b => b = L ∨ preA pre b, ret := own }) ps ds vs [] { s with heap := h' } k5 f₀ hr' hl) fun _ s₂ ⟨y₁, f₁⟩ => ?_
  refine ⟨(O.lim.keeps fun b o e => f₁.wd.base b o e), codeAny_func ?_⟩
  refine bot_mono (h.go _ (A.deeper _) s₂ rfl (a.deeper _) f₁) fun fl s₃ ⟨y₂, hp, v, e, hv⟩ => ?_
  subst e
  exact ⟨v, rfl, y₀.drop (y₁.trans y₂) fun b o _ e q => (by rw [m.fresh q] at e; cases e), hp, hv⟩
theorem EvP.calF {x : Str} {p p' : Pos} {e : Expr} {es : List Expr} {f : Addr} {ps : List Str} {body : List Stmt} {sc : Scope} {ds : List D} {d : D} {k : Nat} (hx : Ev C n nm Γ (.Name x p') (.raw (.ref f))) (ha : Evs C n nm Γ (e :: es) ds) (hi : IsFn C f ps body sc) (hf : FnP C k f ds d) (hk : k + 1 ≤ n)
    (he : ∀ env, starEach (e :: es) env = (false, eval e env) :: starEach es env) : EvP C n nm Γ (.Call (.Name x p') (e :: es) [] p) d := .mk fun F A s q a f₀ => by
  obtain ⟨o, fd, ho, hd, _⟩ := hi.ex
  show wpAny _ _ (eval (.Name x p') F.env >>= fun fv => callWith p fv [] (backTo p (starEach (e :: es) F.env)) (backToKw p (keywordEach [] F.env))) _ _ s
  refine wpAny_bind (bot_mono (hx.go F A s q a f₀) fun v s₁ ⟨y, z⟩ => ?_)
  cases z
  refine callWith_function (o := o) (fd := fd) ?_
  have z := ha.go F A s₁ p q a (f₀.step y)
  rw [he] at z ⊢
  refine evalArgs_plain (bot_mono z fun vs s₂ ⟨y₂, hr⟩ => ⟨⟨(f₀.step (y.trans y₂)).wd.base _ _ ho, hd⟩, wpAny_call ?_⟩)
  refine codeAny_mono (hf A s₂ F.own vs (a.le hk) (f₀.step (y.trans y₂)).wd hr) fun r s₃ ⟨v, e, y₃, hp, z₃⟩ => ?_
  subst e
  exact ⟨(y.trans y₂).trans y₃, hp, z₃⟩
/-- the first statement draws a token; the rest may hold floats -/
theorem Ex.tasgP {ts : List Expr} {k : Nat} {p p' : Pos} {e : Expr} {r : List Stmt} {ds : List D} {Γ' : Gam} {P : Out → Prop} (hP : ∀ Γ I, ¬ P (.nxt Γ I)) (h : EvP C (n + 1) nm Γ e (.tup ds)) (g : Asns C nm ts ds Γ Γ')
    (kk : Ex C.up (n + 1) nm Γ' noB r P) (hs : ∀ env, swapsWithSole [.Tuple ts k p'] e p.line env = pure false) (hw : ∀ env, swappedStores [.Tuple ts k p'] e env = pure none) : Ex C (n + 1) nm Γ noB (.Assign [.Tuple ts k p'] e p :: r) P := .mk fun F A s q a f i => by
  refine wpAny_execs_cons (PyProof.Rows.Assign_Tuple (bot_mono (h.go F A s q a f) fun v s₁ ⟨y, hp, z⟩ => ?_) (hs _) (hw _))
  refine bot_mono ((Asn.tup (k := k) (p := p') g).go F A s₁ v noB q (a.le (by omega)) (f.step y) z trivial) fun _ s₂ ⟨y₂, f₂, i₂⟩ => ?_
  refine bot_mono (kk.go F A s₂ q a (f₂.up (Nat.lt_of_lt_of_le hp y₂.tk)) trivial) fun fl s₃ ⟨y₃, o, ho, hf⟩ => ⟨(y.non.trans y₂).trans y₃, o, ho, ?_⟩
  cases o with
  | nxt _ _ => exact (hP _ _ ho).elim
  | ret d => cases fl <;> first | exact hf | exact hf.elim
end Mine
namespace Mine
open PySem PySem.Sre

noncomputable abbrev fcode : Array Nat := #[14, 4, 0, 8, 4294967295, 24, 5, 0, 4294967295, 2, 1, 16, 70, 16, 76, 16, 65, 16, 71, 16, 83, 16, 32, 16, 40, 17, 0, 24, 6, 0, 4294967295, 20, 41, 1, 17, 1, 16, 41, 1]
/-- a state of the machine over this text -/
noncomputable def S (x : Array Nat) (seen : Seen) (pc pos handed : Nat) (frames : List Sre.Frame) (weight : Nat) (marks : Array (Option Nat)) (lastmark lastindex : Int) (answer : Option Bool) : M :=
  { code := fcode, text := x, lim := x.size, start := 0, pc, pos, handed, marks, lastmark, lastindex, frames, weight, answer, seen }
/-- the state, whatever was noted -/
noncomputable def Is (m : M) (x : Array Nat) (pc pos handed : Nat) (frames : List Sre.Frame) (weight : Nat) (marks : Array (Option Nat)) (lastmark lastindex : Int) (answer : Option Bool) : Prop := ∃ seen, m = S x seen pc pos handed frames weight marks lastmark lastindex answer
variable {m : M} {x : Array Nat} {pc pos handed weight : Nat} {frames : List Sre.Frame} {marks : Array (Option Nat)} {lastmark lastindex : Int} {answer : Option Bool}

theorem lit_yes {c : Nat} (h : Is m x pc pos handed frames weight marks lastmark lastindex none) (h0 : fcode.getD pc 0 = 16) (h1 : fcode.getD (pc + 1) 0 = c) (hp : pc < 39) (hl : pos < x.size) (hc : x.getD pos 0 = c) :
    Is m.step x (pc + 2) (pos + 1) handed frames weight marks lastmark lastindex none := by
  obtain ⟨seen, rfl⟩ := h
  refine ⟨seen.add 16, ?_⟩
  have e0 : (S x seen pc pos handed frames weight marks lastmark lastindex none).word 0 = 16 := h0
  have step : (S x seen pc pos handed frames weight marks lastmark lastindex none).step = (S x seen pc pos handed frames weight marks lastmark lastindex none).exec := by
    show (if pc < 39 then _ else _) = _
    rw [if_pos hp]
  rw [step]
  unfold M.exec
  rw [e0]
  show (if x.size ≤ pos then _ else _) = _
  rw [if_neg (by omega)]
  have ea : accepts fcode pc (x.getD pos 0) (seen.add 16) = .ok (true, seen.add 16) := by
    unfold accepts
    rw [h0]
    show Except.ok (x.getD pos 0 == fcode.getD (pc + 1) 0, _) = _
    rw [h1, hc]; simp
  have ew : itemWidth fcode pc = 2 := by
    unfold itemWidth
    rw [h0]; rfl
  show (match accepts fcode pc (x.getD pos 0) (seen.add 16) with | .error why => _ | .ok (false, seen) => _ | .ok (true, seen) => _) = _
  rw [ea]
  show ({ (S x _ pc pos handed frames weight marks lastmark lastindex none) with pc := pc + itemWidth fcode pc, pos := pos + 1 } : M) = _
  rw [ew]; rfl
theorem lit_no {c : Nat} (h : Is m x pc pos handed frames weight marks lastmark lastindex none) (h0 : fcode.getD pc 0 = 16) (h1 : fcode.getD (pc + 1) 0 = c) (hp : pc < 39) (hc : pos < x.size → x.getD pos 0 ≠ c) :
    Is m.step x pc pos handed frames weight marks lastmark lastindex (some false) := by
  obtain ⟨seen, rfl⟩ := h
  refine ⟨seen.add 16, ?_⟩
  have e0 : (S x seen pc pos handed frames weight marks lastmark lastindex none).word 0 = 16 := h0
  have step : (S x seen pc pos handed frames weight marks lastmark lastindex none).step = (S x seen pc pos handed frames weight marks lastmark lastindex none).exec := by
    show (if pc < 39 then _ else _) = _
    rw [if_pos hp]
  rw [step]
  unfold M.exec
  rw [e0]
  show (if x.size ≤ pos then _ else _) = _
  by_cases hl : x.size ≤ pos
  · rw [if_pos hl]; rfl
  rw [if_neg hl]
  have ea : accepts fcode pc (x.getD pos 0) (seen.add 16) = .ok (false, seen.add 16) := by
    unfold accepts
    rw [h0]
    show Except.ok (x.getD pos 0 == fcode.getD (pc + 1) 0, _) = _
    rw [h1]
    have := hc (by omega)
    rw [beq_eq_false_iff_ne.mpr this]
  show (match accepts fcode pc (x.getD pos 0) (seen.add 16) with | .error why => _ | .ok (false, seen) => _ | .ok (true, seen) => _) = _
  rw [ea]; rfl
noncomputable abbrev gb (pc pos : Nat) (count lm li : Int) : Sre.Frame := { wait := .giveBack, pc, pos, outermost := true, count, kept := { lastmark := lm, lastindex := li, whole := false, marks := #[] } }
theorem step_exec {seen : Seen} (hp : pc < 39) : (S x seen pc pos handed frames weight marks lastmark lastindex none).step = (S x seen pc pos handed frames weight marks lastmark lastindex none).exec := by
  show (if pc < 39 then _ else _) = _
  rw [if_pos hp]
theorem run_any (x : Array Nat) (seen : Seen) : ∀ (n p found : Nat), (∀ i, p ≤ i → i < p + n → x.getD i 0 ≠ 10) → run fcode x 9 n p found seen = .ok (found + n, seen)
  | 0, p, found, _ => rfl
  | n + 1, p, found, h => by
    have e : accepts fcode 9 (x.getD p 0) seen = .ok (true, seen) := by
      show Except.ok (x.getD p 0 != 10, seen) = _
      have := h p (Nat.le_refl _) (by omega)
      rw [bne_iff_ne.mpr this]
    show (do let (yes, seen) ← accepts fcode 9 (x.getD p 0) seen; if yes then run fcode x 9 n (p + 1) (found + 1) seen else pure (found, seen)) = _
    rw [e]
    show run fcode x 9 n (p + 1) (found + 1) seen = _
    rw [run_any x seen n (p + 1) (found + 1) (fun i h1 h2 => h i (by omega) (by omega))]
    congr 2; omega
theorem run_not (x : Array Nat) (seen : Seen) : ∀ (k n p found : Nat), k < n → (∀ i, p ≤ i → i < p + k → x.getD i 0 ≠ 41) → x.getD (p + k) 0 = 41 → run fcode x 31 n p found seen = .ok (found + k, seen)
  | 0, 0, p, found, h, _, _ => by omega
  | 0, n + 1, p, found, _, _, h => by
    have e : accepts fcode 31 (x.getD p 0) seen = .ok (false, seen) := by
      show Except.ok (x.getD p 0 != 41, seen) = _
      rw [show x.getD p 0 = 41 from h]; rfl
    show (do let (yes, seen) ← accepts fcode 31 (x.getD p 0) seen; if yes then run fcode x 31 n (p + 1) (found + 1) seen else pure (found, seen)) = _
    rw [e]; rfl
  | k + 1, 0, p, found, h, _, _ => by omega
  | k + 1, n + 1, p, found, hk, h, h2 => by
    have e : accepts fcode 31 (x.getD p 0) seen = .ok (true, seen) := by
      show Except.ok (x.getD p 0 != 41, seen) = _
      have := h p (Nat.le_refl _) (by omega)
      rw [bne_iff_ne.mpr this]
    show (do let (yes, seen) ← accepts fcode 31 (x.getD p 0) seen; if yes then run fcode x 31 n (p + 1) (found + 1) seen else pure (found, seen)) = _
    rw [e]
    show run fcode x 31 n (p + 1) (found + 1) seen = _
    rw [run_not x seen k n (p + 1) (found + 1) (by omega) (fun i h1 h2 => h i (by omega) (by omega)) (by rw [← h2]; congr 1; omega)]
    congr 2; omega
theorem rep5 (h : Is m x 5 0 handed [] 0 marks (-1) (-1) none) (hx : ∀ i, i < x.size → x.getD i 0 ≠ 10) (hs : x.size ≤ 4294967295) :
    Is m.step x 11 x.size x.size [gb 5 x.size x.size (-1) (-1)] 1 marks (-1) (-1) none := by
  obtain ⟨seen, rfl⟩ := h
  refine ⟨(seen.add 24).add 2, ?_⟩
  rw [step_exec (by decide)]
  unfold M.exec
  have e0 : (S x seen 5 0 handed [] 0 marks (-1) (-1) none).word 0 = 24 := rfl
  rw [e0]
  show (if ((0 : Nat) : Int) > ((x.size : Int) - ((0 : Nat) : Int)) then _ else _) = _
  rw [if_neg (by omega)]
  have er : run fcode x 9 (min 4294967295 (((x.size : Int) - ((0 : Nat) : Int)).toNat)) 0 0 ((seen.add 24).add 2) = .ok (x.size, (seen.add 24).add 2) := by
    have e1 : min 4294967295 (((x.size : Int) - ((0 : Nat) : Int)).toNat) = x.size := by omega
    rw [e1, run_any x _ x.size 0 0 (fun i _ h2 => hx i (by omega))]
    simp
  show (match run fcode x 9 (min 4294967295 (((x.size : Int) - ((0 : Nat) : Int)).toNat)) 0 0 ((seen.add 24).add 2) with | .error why => _ | .ok (n, seen) => _) = _
  rw [er]
  show (if x.size < 0 then _ else _) = _
  rw [if_neg (by omega)]
  show M.attempt _ _ _ _ _ = _
  unfold M.attempt
  show (if (0 + 1 + 0 > 16777216) then _ else _) = _
  rw [if_neg (by decide)]
  show S x _ 11 (0 + x.size) (0 + x.size) [gb 5 (0 + x.size) x.size (-1) (-1)] 1 marks (-1) (-1) none = _
  rw [Nat.zero_add]
theorem rep27 {k : Nat} {fr : List Sre.Frame} {lm li : Int} (h : Is m x 27 pos handed fr weight marks lm li none) (hw : weight ≤ 1000) (hp : pos + k < x.size) (hx : ∀ i, pos ≤ i → i < pos + k → x.getD i 0 ≠ 41) (hk : x.getD (pos + k) 0 = 41) (hs : x.size ≤ 4294967295) :
    Is m.step x 34 (pos + k) (pos + k) (gb 27 (pos + k) k lm li :: fr) (weight + 1) marks lm li none := by
  obtain ⟨seen, rfl⟩ := h
  refine ⟨(seen.add 24).add 20, ?_⟩
  rw [step_exec (by decide)]
  unfold M.exec
  have e0 : (S x seen 27 pos handed fr weight marks lm li none).word 0 = 24 := rfl
  rw [e0]
  show (if ((0 : Nat) : Int) > ((x.size : Int) - (pos : Int)) then _ else _) = _
  rw [if_neg (by omega)]
  have er : run fcode x 31 (min 4294967295 (((x.size : Int) - (pos : Int)).toNat)) pos 0 ((seen.add 24).add 20) = .ok (k, (seen.add 24).add 20) := by
    rw [run_not x _ k _ pos 0 (by omega) hx hk]
    simp
  show (match run fcode x 31 (min 4294967295 (((x.size : Int) - (pos : Int)).toNat)) pos 0 ((seen.add 24).add 20) with | .error why => _ | .ok (n, seen) => _) = _
  rw [er]
  show (if k < 0 then _ else _) = _
  rw [if_neg (by omega)]
  show M.attempt _ _ _ _ _ = _
  unfold M.attempt
  show (if (weight + 1 + 0 > 16777216) then _ else _) = _
  rw [if_neg (by omega)]
  rfl
theorem attempt_ok (m : M) (f : Sre.Frame) (t q : Nat) (o : Bool) (h : m.weight + 1 + f.kept.marks.size ≤ 16777216) : m.attempt f t q o = { m with frames := f :: m.frames, weight := m.weight + 1 + f.kept.marks.size, pc := t, pos := q, handed := q, outermost := o } := by
  unfold M.attempt
  rw [if_neg (by omega)]
theorem back5 {k : Nat} {lm' li' : Int} (h : Is m x pc pos handed [gb 5 (k + 1) (k + 1 : Nat) (-1) (-1)] 1 marks lm' li' (some false)) :
    Is m.step x 11 k k [gb 5 k (k : Nat) (-1) (-1)] 1 marks (-1) (-1) none := by
  obtain ⟨seen, rfl⟩ := h
  refine ⟨seen, ?_⟩
  have e : (S x seen pc pos handed [gb 5 (k + 1) (k + 1 : Nat) (-1) (-1)] 1 marks lm' li' (some false)).step = M.resume { (S x seen pc pos handed [] (1 - (1 + 0)) marks lm' li' none) with pc := 5, pos := k + 1, outermost := true } (gb 5 (k + 1) (k + 1 : Nat) (-1) (-1)) false := rfl
  rw [e]
  unfold M.resume
  show (if (false = true) then _ else if (((k + 1 : Nat) : Int) - 1 < ((0 : Nat) : Int)) then _ else _) = _
  rw [if_neg Bool.false_ne_true, if_neg (by omega)]
  unfold M.afterRun
  rw [attempt_ok _ _ _ _ _ (show (0 + 1 + 0 : Nat) ≤ 16777216 from by decide)]
  show S x seen 11 (k + 1 - 1) (k + 1 - 1) [gb 5 (k + 1 - 1) (((k + 1 : Nat) : Int) - 1) (-1) (-1)] 1 marks (-1) (-1) none = _
  have e1 : (((k + 1 : Nat) : Int) - 1) = (k : Int) := by omega
  rw [e1]; rfl
theorem mark0 {fr : List Sre.Frame} (h : Is m x 25 pos handed fr weight #[none, none] (-1) (-1) none) : Is m.step x 27 pos handed fr weight #[some pos, none] 0 (-1) none := by
  obtain ⟨seen, rfl⟩ := h
  exact ⟨seen.add 17, rfl⟩
theorem mark1 {a : Nat} {fr : List Sre.Frame} (h : Is m x 34 pos handed fr weight #[some a, none] 0 (-1) none) : Is m.step x 36 pos handed fr weight #[some a, some pos] 1 1 none := by
  obtain ⟨seen, rfl⟩ := h
  refine ⟨seen.add 17, ?_⟩
  rw [step_exec (by decide)]
  show M.mark _ 1 = _
  unfold M.mark
  rfl
theorem succ38 {fr : List Sre.Frame} (h : Is m x 38 pos handed fr weight marks lastmark lastindex none) : Is m.step x 38 pos pos fr weight marks lastmark lastindex (some true) := by
  obtain ⟨seen, rfl⟩ := h
  exact ⟨seen.add 1, rfl⟩
theorem yes {q qp : Nat} {c lm li : Int} {fr : List Sre.Frame} (h : Is m x pc pos handed (gb q qp c lm li :: fr) weight marks lastmark lastindex (some true)) : Is m.step x q qp handed fr (weight - 1) marks lastmark lastindex (some true) := by
  obtain ⟨seen, rfl⟩ := h
  exact ⟨seen, rfl⟩
end Mine
namespace Mine
open PySem PySem.Sre
variable {m : M} {x : Array Nat} {pc pos handed weight : Nat} {frames : List Sre.Frame} {marks : Array (Option Nat)} {lastmark lastindex : Int} {answer : Option Bool}

/-- within so many steps -/
noncomputable def Reach (B : Nat) (m : M) (Q : M → Prop) : Prop := ∃ n, n ≤ B ∧ Q (M.runFor n m)
theorem Is.none (h : Is m x pc pos handed frames weight marks lastmark lastindex answer) : m.outcome = none := by obtain ⟨seen, rfl⟩ := h; rfl
theorem Reach.now {Q : M → Prop} {B : Nat} (h : Q m) : Reach B m Q := ⟨0, Nat.zero_le _, h⟩
theorem Reach.step {Q : M → Prop} {B : Nat} (h : m.outcome = none) (r : Reach B m.step Q) : Reach (B + 1) m Q := by
  obtain ⟨n, hn, hq⟩ := r
  refine ⟨n + 1, by omega, ?_⟩
  show Q (if m.outcome.isSome then m else M.runFor n m.step)
  rw [h]; exact hq
theorem Reach.le {Q : M → Prop} {B B' : Nat} (h : B ≤ B') (r : Reach B m Q) : Reach B' m Q := let ⟨n, hn, hq⟩ := r; ⟨n, by omega, hq⟩

theorem back_all {Q : M → Prop} {B : Nat} {marks : Array (Option Nat)} (hF : ∀ k, 11 < k → k < x.size → x.getD k 0 = 70 → k + 1 < x.size → x.getD (k + 1) 0 ≠ 76)
    (hQ : ∀ m, Is m x 11 11 11 [gb 5 11 (11 : Nat) (-1) (-1)] 1 marks (-1) (-1) Option.none → Reach B m Q) :
    ∀ (d : Nat) (m : M), Is m x 11 (11 + d) (11 + d) [gb 5 (11 + d) (11 + d : Nat) (-1) (-1)] 1 marks (-1) (-1) Option.none → Reach (3 * d + B) m Q
  | 0, m, h => by simpa using hQ m h
  | d + 1, m, h => by
    have ih := back_all hF hQ d
    by_cases h1 : 11 + (d + 1) < x.size ∧ x.getD (11 + (d + 1)) 0 = 70
    · have s1 := lit_yes (c := 70) h rfl rfl (by decide) h1.1 h1.2
      have s2 := lit_no (c := 76) s1 rfl rfl (by decide) fun hl => hF _ (by omega) h1.1 h1.2 hl
      have s3 := back5 (k := 11 + d) s2
      exact (Reach.step h.none (Reach.step s1.none (Reach.step s2.none (ih _ s3)))).le (by omega)
    · have s1 := lit_no (c := 70) h rfl rfl (by decide) fun hl e => h1 ⟨hl, e⟩
      have s2 := back5 (k := 11 + d) s1
      exact (Reach.step h.none (Reach.step s1.none (ih _ s2))).le (by omega)

/-- what the match leaves -/
structure Won (m : M) (b e h : Nat) : Prop where
  out : m.outcome = some .matched
  start : m.start = 0
  handed : m.handed = h
  marks : m.marks = #[some b, some e]
  lm : m.lastmark = 1
  li : m.lastindex = 1
theorem done {p q h : Nat} {b e : Nat} (i : Is m x p q h [] 0 #[some b, some e] 1 1 (some true)) : Won m.step b e h := by
  obtain ⟨seen, rfl⟩ := i
  exact ⟨rfl, rfl, rfl, rfl, rfl, rfl⟩
theorem flags_match {n : Nat} (h10 : ∀ i, i < x.size → x.getD i 0 ≠ 10) (hs : x.size ≤ 4294967295) (hsz : 18 + n < x.size) (hF : ∀ k, 11 < k → k < x.size → x.getD k 0 = 70 → k + 1 < x.size → x.getD (k + 1) 0 ≠ 76)
    (c0 : x.getD 11 0 = 70) (c1 : x.getD 12 0 = 76) (c2 : x.getD 13 0 = 65) (c3 : x.getD 14 0 = 71) (c4 : x.getD 15 0 = 83) (c5 : x.getD 16 0 = 32) (c6 : x.getD 17 0 = 40)
    (hn : ∀ i, 18 ≤ i → i < 18 + n → x.getD i 0 ≠ 41) (he : x.getD (18 + n) 0 = 41) :
    ∀ m, Is m x 5 0 0 [] 0 #[none, none] (-1) (-1) none → Reach (3 * x.size + 20) m fun m => Won m 18 (18 + n) (18 + n + 1) := fun m h => by
  have s0 := rep5 h h10 hs
  have hd : x.size = 11 + (x.size - 11) := by omega
  have key := back_all (B := 18) (Q := fun m => Won m 18 (18 + n) (18 + n + 1)) (marks := #[none, none]) hF (fun m h => by
    have a0 := lit_yes (c := 70) h rfl rfl (by decide) (by omega) c0
    have a1 := lit_yes (c := 76) a0 rfl rfl (by decide) (by omega) c1
    have a2 := lit_yes (c := 65) a1 rfl rfl (by decide) (by omega) c2
    have a3 := lit_yes (c := 71) a2 rfl rfl (by decide) (by omega) c3
    have a4 := lit_yes (c := 83) a3 rfl rfl (by decide) (by omega) c4
    have a5 := lit_yes (c := 32) a4 rfl rfl (by decide) (by omega) c5
    have a6 := lit_yes (c := 40) a5 rfl rfl (by decide) (by omega) c6
    have a7 := mark0 a6
    have a8 := rep27 (k := n) a7 (by decide) hsz hn he hs
    have a9 := mark1 a8
    have b0 := lit_yes (c := 41) a9 rfl rfl (by decide) hsz he
    have b1 := succ38 b0
    have b2 := yes b1
    have b3 := yes b2
    have b4 := done b3
    exact ((Reach.step h.none <| Reach.step a0.none <| Reach.step a1.none <| Reach.step a2.none <| Reach.step a3.none <| Reach.step a4.none <| Reach.step a5.none <| Reach.step a6.none <| Reach.step a7.none <| Reach.step a8.none <| Reach.step a9.none <| Reach.step b0.none <| Reach.step b1.none <| Reach.step b2.none <| Reach.step b3.none <| Reach.now (B := 0) b4)).le (by omega)) (x.size - 11) _ (by rw [← hd]; exact s0)
  exact (Reach.step h.none key).le (by omega)

theorem runFor_done {m : M} (h : m.outcome.isSome) : ∀ n, M.runFor n m = m
  | 0 => rfl
  | n + 1 => by show (if m.outcome.isSome then m else _) = m; rw [if_pos h]
theorem runFor_add : ∀ (a b : Nat) (m : M), M.runFor (a + b) m = M.runFor b (M.runFor a m)
  | 0, b, m => by rw [Nat.zero_add]; rfl
  | a + 1, b, m => by
    have e : a + 1 + b = (a + b) + 1 := by omega
    rw [e]
    show (if m.outcome.isSome then m else M.runFor (a + b) m.step) = M.runFor b (if m.outcome.isSome then m else M.runFor a m.step)
    by_cases h : m.outcome.isSome
    · rw [if_pos h, if_pos h, runFor_done h]
    · rw [if_neg h, if_neg h]; exact runFor_add a b m.step
theorem Reach.at {Q : M → Prop} {B : Nat} (hQ : ∀ m, Q m → m.outcome.isSome) (h : Reach B m Q) : Q (M.runFor B m) := by
  obtain ⟨n, hn, hq⟩ := h
  have e : B = n + (B - n) := by omega
  rw [e, runFor_add, runFor_done (hQ _ hq)]
  exact hq
open PySem.Builtin.Re in
theorem drive_ok {M' : Model} {A : Around} {E : Value → Shared → Prop} {s : Shared} {R : M → Shared → Prop} {Q : M → Prop} (hQ : ∀ m, Q m → m.outcome.isSome) (hR : ∀ m, Q m → R m s) : ∀ (turns : Nat) (m : M), 0 < turns → Q (M.runFor (4 * turns) m) → wpAny M' A (reDrive turns m) R E s
  | 0, m, h, _ => by omega
  | k + 1, m, _, hq => by
    show wpAny M' A (if (M.runFor 4 m).outcome.isSome then pure (M.runFor 4 m) else do rule "sre.turn"; reDrive k (M.runFor 4 m)) R E s
    have e : M.runFor (4 * (k + 1)) m = M.runFor (4 * k) (M.runFor 4 m) := by rw [show 4 * (k + 1) = 4 + 4 * k by omega, runFor_add]
    rw [e] at hq
    refine wpAny_ite ?_
    split
    · rename_i h
      rw [runFor_done h] at hq
      exact wpAny_pure (hR _ hq)
    · rename_i h
      cases k with
      | zero => exact absurd (hQ _ hq) h
      | succ k => exact wpAny_bind (wpAny_rule (drive_ok hQ hR (k + 1) _ (Nat.succ_pos _) hq))
end Mine
namespace Mine
open PySem PySem.Calls PyProof.Rows PySem.W

theorem pa_pat : PlainAttrs "re.Pattern" := ⟨⟨"object.__getattribute__", by rw [typeLookup_type, builtinLookup_eq_fast]; kernel_rfl, by decide +kernel⟩, by rw [typeLookup_type, builtinLookup_eq_fast]; kernel_rfl⟩
theorem pa_mat : PlainAttrs "re.Match" := ⟨⟨"object.__getattribute__", by rw [typeLookup_type, builtinLookup_eq_fast]; kernel_rfl, by decide +kernel⟩, by rw [typeLookup_type, builtinLookup_eq_fast]; kernel_rfl⟩
theorem pa_byt : PlainAttrs "bytes" := ⟨⟨"bytes.__getattribute__", by rw [typeLookup_type, builtinLookup_eq_fast]; kernel_rfl, by decide +kernel⟩, by rw [typeLookup_type, builtinLookup_eq_fast]; kernel_rfl⟩
theorem sl_match : Slot "re.Pattern" "match" "re.Pattern.match" :=
  .of (owner := "re.Pattern") (n := "match") (by rw [typeLookup_type, builtinLookup_eq_fast]; kernel_rfl) (by decide +kernel) (by decide +kernel) (by decide +kernel)
    (by first | exact .inl (by decide +kernel) | exact .inr (by decide +kernel)) (by rw [isSubtype_type]; kernel_rfl)
theorem sl_group : Slot "re.Match" "group" "re.Match.group" :=
  .of (owner := "re.Match") (n := "group") (by rw [typeLookup_type, builtinLookup_eq_fast]; kernel_rfl) (by decide +kernel) (by decide +kernel) (by decide +kernel)
    (by first | exact .inl (by decide +kernel) | exact .inr (by decide +kernel)) (by rw [isSubtype_type]; kernel_rfl)
theorem sl_split : Slot "bytes" "split" "bytes.split" :=
  .of (owner := "bytes") (n := "split") (by rw [typeLookup_type, builtinLookup_eq_fast]; kernel_rfl) (by decide +kernel) (by decide +kernel) (by decide +kernel)
    (by first | exact .inl (by decide +kernel) | exact .inr (by decide +kernel)) (by rw [isSubtype_type]; kernel_rfl)
theorem sl_join : Slot "bytes" "join" "bytes.join" :=
  .of (owner := "bytes") (n := "join") (by rw [typeLookup_type, builtinLookup_eq_fast]; kernel_rfl) (by decide +kernel) (by decide +kernel) (by decide +kernel)
    (by first | exact .inl (by decide +kernel) | exact .inr (by decide +kernel)) (by rw [isSubtype_type]; kernel_rfl)
theorem en_match : entryFor table "re.Pattern.match" = some Builtin.«re.Pattern.match» := entryFor_of_tree (by kernel_rfl)
theorem en_group : entryFor table "re.Match.group" = some Builtin.«re.Match.group» := entryFor_of_tree (by kernel_rfl)
theorem en_split : entryFor table "bytes.split" = some Builtin.«bytes.split» := entryFor_of_tree (by kernel_rfl)
theorem en_join : entryFor table "bytes.join" = some Builtin.«bytes.join» := entryFor_of_tree (by kernel_rfl)
theorem en_joini : entryFor table "bytes.join.items" = some Builtin.«bytes.join.items» := entryFor_of_tree (by kernel_rfl)
theorem ar_match (a b : Value) : argsOk "re.Pattern.match" ⟨[a, b], []⟩ := by unfold argsOk; kernel_rfl
theorem ar_group (a b : Value) : argsOk "re.Match.group" ⟨[a, b], []⟩ := by unfold argsOk; kernel_rfl
theorem ar_split (a : Value) : argsOk "bytes.split" ⟨[a], []⟩ := by unfold argsOk; kernel_rfl
theorem ar_join (a b : Value) : argsOk "bytes.join" ⟨[a, b], []⟩ := by unfold argsOk; kernel_rfl
theorem ty_match : typeOf (.builtin "re.Pattern.match") = pure (.type "method_descriptor") := by kernel_rfl
theorem ty_group : typeOf (.builtin "re.Match.group") = pure (.type "method_descriptor") := by kernel_rfl
theorem ty_split : typeOf (.builtin "bytes.split") = pure (.type "method_descriptor") := by kernel_rfl
theorem ty_join : typeOf (.builtin "bytes.join") = pure (.type "method_descriptor") := by kernel_rfl
theorem nb_mat : typeLookup (.type "re.Match") "__bool__" = pure none := by rw [typeLookup_type, builtinLookup_eq_fast]; kernel_rfl
theorem nl_mat : typeLookup (.type "re.Match") "__len__" = pure none := by rw [typeLookup_type, builtinLookup_eq_fast]; kernel_rfl
end Mine
namespace Mine
open PySem PySem.Calls PyProof.Rows PySem.W
variable {C : Cx} {n : Nat} {nm : Names} {Γ : Gam}
open PySem.Builtin.Re PySem.Builtin

/-- the pattern, where it lies -/
structure Pat (C : Cx) (a c d : Addr) : Prop where
  ob : ∃ o vs items e, C.h₀.get? a = some o ∧ o.cls = .type "re.Pattern" ∧ o.dict = none ∧ o.data = .fields vs ∧ vs.getD 2 .none = rawInt 1 ∧ vs.getD 3 .none = .ref d ∧ vs.getD 5 .none = .ref c ∧ vs.getD 6 .none = rawInt 1 ∧
    C.h₀.get? c = some { cls := .type "tuple", data := .seq items e } ∧ (items.map reRawOf).map (·.toNat) = fcode
  dict : ∃ f t, C.h₀.MapOf (PySem.strKind C.prog C.w) d f ∧ f ("flags" : Str) = some (.int 1 t)
/-- what matching asks of a text -/
structure Txt1 (b : Array UInt8) (n : Nat) : Prop where
  h10 : ∀ i, i < (b.map (·.toNat)).size → (b.map (·.toNat)).getD i 0 ≠ 10
  hs : (b.map (·.toNat)).size ≤ 10000
  hsz : 18 + n < (b.map (·.toNat)).size
  hF : ∀ k, 11 < k → k < (b.map (·.toNat)).size → (b.map (·.toNat)).getD k 0 = 70 → k + 1 < (b.map (·.toNat)).size → (b.map (·.toNat)).getD (k + 1) 0 ≠ 76
  c0 : (b.map (·.toNat)).getD 11 0 = 70
  c1 : (b.map (·.toNat)).getD 12 0 = 76
  c2 : (b.map (·.toNat)).getD 13 0 = 65
  c3 : (b.map (·.toNat)).getD 14 0 = 71
  c4 : (b.map (·.toNat)).getD 15 0 = 83
  c5 : (b.map (·.toNat)).getD 16 0 = 32
  c6 : (b.map (·.toNat)).getD 17 0 = 40
  hn : ∀ i, 18 ≤ i → i < 18 + n → (b.map (·.toNat)).getD i 0 ≠ 41
  he : (b.map (·.toNat)).getD (18 + n) 0 = 41
/-- the match object -/
structure MObj (h : Heap) (m tp a : Addr) (b : Array UInt8) (n : Nat) : Prop where
  ob : ∃ t lim z e, h.get? m = some { cls := .type "re.Match", data := .fields #[.bytes b t, .ref a, rawInt 0, rawInt lim, rawInt 1, .ref tp] } ∧ h.get? tp = some { cls := .type "tuple", data := .seq #[rawInt 0, rawInt z, rawInt 18, rawInt (18 + n : Nat)] e }
theorem MObj.keep {h h' : Heap} {m tp a : Addr} {b : Array UInt8} {n : Nat} (x : MObj h m tp a b n) (k : ∀ c o, (c = m ∨ c = tp) → h.get? c = some o → h'.get? c = some o) : MObj h' m tp a b n := by
  obtain ⟨t, lim, z, e, h1, h2⟩ := x.ob
  exact ⟨t, lim, z, e, k _ _ (.inl rfl) h1, k _ _ (.inr rfl) h2⟩
theorem named1 (v : Value) : reNamed "re.Pattern.match" "match" ["string", "pos", "endpos"] 1 [v] [] = pure [some v, none, none] := rfl
theorem text_eq {b : Array UInt8} {t : Tok} : reTextOf (.bytes b t) = pure (b.map (·.toNat), 1) := by
  unfold reTextOf
  show (do if let some s ← (pure none : Sem (Option Str)) then return (s.cps, 0) else match ← Bytes.bufferQuiet? "_sre" (.bytes b t) with | some (b : Array UInt8) => pure (b.map (fun c : UInt8 => c.toNat), 1) | none => _) = _
  rw [KBy.quiet_eq]; rfl
theorem forMatch_is (x : Array Nat) (hs : 8 ≤ x.size) : Is (Sre.forMatch fcode x 1 0 x.size false false) x 5 0 0 [] 0 #[none, none] (-1) (-1) none := by
  unfold Sre.forMatch
  have e : (Sre.header fcode) = (8, 5) := rfl
  simp only [e]
  have : ¬ ((8 != 0 && decide (0 ≤ x.size) && decide (x.size - 0 < 8)) = true) := by simp; omega
  rw [if_neg this]
  exact ⟨_, rfl⟩
theorem names_loop {M' : Model} {A : Around} {E : Value → Shared → Prop} {s : Shared} {Q : PUnit → Shared → Prop} (m : Sre.M) (f : Nat → PUnit → Sem (ForInStep PUnit))
    (hf : ∀ i r, f i r = if m.seen.has i = true then (do rule (Sre.names.getD i ""); pure (ForInStep.yield PUnit.unit)) else pure (ForInStep.yield PUnit.unit)) (l : List Nat) (h : Q PUnit.unit s) :
    wpAny M' A (forIn l PUnit.unit f) Q E s := by
  induction l with
  | nil => rw [List.forIn_nil]; exact wpAny_pure h
  | cons i l ih =>
    rw [List.forIn_cons, hf]
    refine wpAny_bind ?_
    refine wpAny_ite ?_
    split
    · exact wpAny_bind (wpAny_rule (wpAny_pure ih))
    · exact wpAny_pure ih
theorem match_ok {A : Around} {s : Shared} {own : Own} {a c d : Addr} {t : Tok} {b : Array UInt8} {k : Nat} (P : Pat C a c d) (T : Txt1 b k) (w : Wd C own s) :
    wpAny (model C.prog C.w) A (call (.builtin "re.Pattern.match") [.ref a, .bytes b t]) (fun v s' => Step No s s' ∧ ∃ m tp, v = .ref m ∧ s.heap.get? m = none ∧ s.heap.get? tp = none ∧ MObj s'.heap m tp a b k) Bot s := by
  obtain ⟨o, vs, items, e, h1, h2, h3, h4, h5, h6, h7, h8, h9, h10⟩ := P.ob
  have ho := w.base _ _ h1
  have hc := w.base _ _ h9
  refine wpAny_call_entry sl_match ⟨o, ho, h2⟩ en_match ?_ (ar_match _ _)
  unfold Builtin.«re.Pattern.match»
  have target : ∀ {R : ReTarget → Shared → Prop}, R { pattern := .ref a, string := .bytes b t, code := fcode, text := b.map (·.toNat), kind := 1, groups := 1, pos := 0, lim := (b.map (·.toNat)).size } s →
      wpAny (model C.prog C.w) A.in1 (reTarget "re.Pattern.match" "match" ⟨[.ref a, .bytes b t], []⟩) R (fun _ _ => False) s := fun {R} hR => by
    unfold reTarget
    refine wpAny_bind (wpAny_of_eq (named1 _) ?_)
    refine wpAny_bind (wpAny_pure ?_)
    refine wpAny_bind (wpAny_pure ?_)
    refine wpAny_bind (wpAny_fieldsOf ho h4 ?_)
    refine wpAny_bind (wpAny_of_eq text_eq ?_)
    show wpAny _ _ (if (reRawNat (vs.getD 6 .none) == 0 && 1 == 1) = true then _ else _) _ _ s
    rw [h8]
    refine wpAny_ite_false rfl ?_
    refine wpAny_ite_false rfl ?_
    have hcol : wpAny (model C.prog C.w) A.in1 (reNoCollectionInside (.bytes b t) 1) (fun _ s' => s' = s) (fun _ _ => False) s := by
      unfold reNoCollectionInside
      refine wpAny_ite_true rfl ?_
      refine wpAny_bind (wpAny_of_eq KBy.isInstance_eq ?_)
      exact wpAny_ite_false rfl (wpAny_pure rfl)
    refine wpAny_bind (wpAny_mono hcol (fun _ s' es => ?_) fun _ _ x => x)
    subst es
    refine wpAny_bind ?_
    unfold reRawItems
    rw [h7]
    refine wpAny_bind (wpAny_seqItems hc rfl (wpAny_pure ?_))
    refine wpAny_pure ?_
    have hs := T.hs
    have hlim : min (2 ^ 63 - 1 : Int).toNat (b.map (·.toNat)).size = (b.map (·.toNat)).size := Nat.min_eq_right (Nat.le_trans hs (by decide))
    have hpos : min (0 : Int).toNat (b.map (·.toNat)).size = 0 := Nat.zero_min _
    show R { pattern := _, string := _, code := (items.map reRawOf).map (·.toNat), text := _, kind := _, groups := reRawNat (vs.getD 2 .none), pos := min (0 : Int).toNat (b.map (·.toNat)).size, lim := min (2 ^ 63 - 1 : Int).toNat (b.map (·.toNat)).size } _
    rw [h10, h5, hlim, hpos]
    exact hR
  refine wpAny_bind (target ?_)
  unfold reAnswer
  have hm := forMatch_is (b.map (·.toNat)) (by have := T.hsz; omega)
  have hr := flags_match T.h10 (Nat.le_trans T.hs (by decide)) T.hsz T.hF T.c0 T.c1 T.c2 T.c3 T.c4 T.c5 T.c6 T.hn T.he _ hm
  refine wpAny_bind ?_
  unfold reRunToEnd
  have hq : ∀ m, Won m 18 (18 + k) (18 + k + 1) → m.outcome.isSome := fun m h => by rw [h.out]; rfl
  have hs := T.hs
  refine wpAny_bind (drive_ok (Q := fun m => Won m 18 (18 + k) (18 + k + 1)) hq (fun m hw => ?_) (2 ^ 64) _ (by decide) ((hr.le (B' := 4 * 2 ^ 64) (Nat.le_trans (Nat.add_le_add_right (Nat.mul_le_mul_left 3 hs) 20) (by decide))).at hq))
  refine wpAny_bind (names_loop m _ (fun _ _ => rfl) _ ?_)
  show wpAny _ _ (match m.outcome with | some .matched => pure (some m) | some .failed => _ | some (.stuck why) => _ | none => _) _ _ s
  rw [hw.out]
  refine wpAny_pure ?_
  refine wpAny_bind ?_
  unfold reNewMatch
  obtain ⟨w1, w2, w3, w4, w5, w6⟩ := hw
  cases m
  simp only at w1 w2 w3 w4 w5 w6
  subst w1 w2 w3 w4 w5 w6
  refine wpAny_ite ?_
  split
  · rename_i hc
    exfalso
    rw [List.any_eq_true] at hc
    obtain ⟨g, hg, hc⟩ := hc
    have hg : g = 0 := by have : g < 1 := List.mem_range.mp hg; omega
    subst hg
    have hc' : (decide (((2 * 0 + 1 : Nat) : Int) ≤ 1) && decide (18 + k < 18)) = true := hc
    rw [Bool.and_eq_true, decide_eq_true_eq, decide_eq_true_eq] at hc'
    omega
  · show wpAny _ _ (newTuple [rawInt (0 : Nat), rawInt (18 + k + 1 : Nat), rawInt (18 : Nat), rawInt (18 + k : Nat)] >>= _) _ _ s
    refine wpAny_bind (PySem.wpAny_newTuple ?_ (Nat.le_of_ble_eq_true rfl))
    refine wpAny_newObj_type ?_ (Nat.le_of_ble_eq_true rfl)
    refine wpAny_pure ⟨_, rfl, ?_⟩
    have y : Step No s { s with heap := (s.heap.push { cls := .type "tuple", data := .seq [rawInt (0 : Nat), rawInt (18 + k + 1 : Nat), rawInt (18 : Nat), rawInt (18 + k : Nat)].toArray }).push { cls := .type "re.Match", data := .fields [.bytes b t, .ref a, rawInt (0 : Nat), rawInt ((b.map (fun c : UInt8 => c.toNat)).size : Nat), rawInt 1, .ref s.heap.objs.size].toArray } } :=
      .ext fun b o e => Heap.get?_push_of_some _ (Heap.get?_push_of_some _ e)
    refine ⟨y, _, s.heap.objs.size, rfl, none_of_le (by rw [Heap.size_push]; exact Nat.le_succ _), fresh_none, t, _, _, 0, Heap.get?_push_size _ rfl, Heap.get?_push_of_some _ (Heap.get?_push_size _ rfl)⟩
end Mine
namespace Mine
open PySem PySem.Calls PyProof.Rows PySem.W
variable {C : Cx} {n : Nat} {nm : Names} {Γ : Gam}
open PySem.Builtin.Re PySem.Builtin

theorem truthy_mat {A : Around} {s : Shared} {E : Value → Shared → Prop} {Q : Bool → Shared → Prop} {m tp a : Addr} {b : Array UInt8} {k : Nat} (M : MObj s.heap m tp a b k) (h : Q true s) : wpAny (model C.prog C.w) A (truthy (.ref m)) Q E s := by
  obtain ⟨t, lim, z, e, h1, h2⟩ := M.ob
  have hT : s.TypeIs (.ref m) "re.Match" := ⟨_, h1, rfl⟩
  unfold truthy
  show wpAny _ _ (callSpecial? (.ref m) "__bool__" >>= _) _ _ s
  refine wpAny_bind ?_
  unfold callSpecial?
  refine wpAny_bind (wpAny_specialOf hT nb_mat (wpAny_pure ?_))
  show wpAny _ _ (specialOf (.ref m) "__len__" >>= _) _ _ s
  refine wpAny_bind (wpAny_specialOf hT nl_mat ?_)
  exact wpAny_ite_true rfl (wpAny_pure h)
theorem ni_str : typeLookup (.type "str") "__index__" = pure none := by rw [typeLookup_type, builtinLookup_eq_fast]; kernel_rfl
theorem group_ok {A : Around} {s : Shared} {own : Own} {m tp a c d : Addr} {t : Tok} {b : Array UInt8} {k : Nat} (P : Pat C a c d) (M : MObj s.heap m tp a b k) (hk : 18 + k ≤ b.size) (hz : b.size ≤ 10000) (w : Wd C own s) :
    wpAny (model C.prog C.w) A (call (.builtin "re.Match.group") [.ref m, .str ("flags" : Str) t]) (fun v s' => Step No s s' ∧ ∃ u, v = .bytes (b.extract 18 (18 + k)) u) Bot s := by
  obtain ⟨o, vs, items, e, h1, h2, h3, h4, h5, h6, h7, h8, h9, h10⟩ := P.ob
  obtain ⟨f, u, hd, hf⟩ := P.dict
  obtain ⟨t', lim, z, e', g1, g2⟩ := M.ob
  have ho := w.base _ _ h1
  refine wpAny_call_entry sl_group ⟨_, g1, rfl⟩ en_group ?_ (ar_group _ _)
  unfold Builtin.«re.Match.group»
  refine wpAny_bind (wpAny_of_eq (show noKeywords "Match.group" ⟨[.ref m, .str ("flags" : Str) t], []⟩ = pure () from rfl) ?_)
  refine wpAny_bind ?_
  unfold reFound
  refine wpAny_bind (wpAny_fieldsOf g1 rfl ?_)
  refine wpAny_bind ?_
  unfold reRawItems
  refine wpAny_bind (wpAny_seqItems g2 rfl (wpAny_pure ?_))
  refine wpAny_pure ?_
  have e0 : Array.map reRawOf ((some #[rawInt 0, rawInt z, rawInt 18, rawInt (18 + k : Nat)]).getD #[]) = #[0, z, 18, ((18 + k : Nat) : Int)] := by simp [reRawOf, rawInt]
  rw [e0]
  show wpAny _ _ (reGroupNumber _ (.str ("flags" : Str) t) >>= fun g => _) _ _ s
  refine wpAny_bind ?_
  unfold reGroupNumber
  have hd' : s.heap.MapOf (PySem.strKind C.prog C.w) d f := by
    obtain ⟨o, es, ep, q1, q2⟩ := hd
    exact ⟨o, es, ep, w.base _ _ q1, q2⟩
  refine wpAny_bind (wpAny_of_eq (show asInt? (.str ("flags" : Str) t) = pure none from rfl) ?_)
  refine wpAny_ite_false rfl ?_
  refine wpAny_bind (wpAny_specialOf (typeIs_str s _ t) ni_str ?_)
  refine wpAny_ite_false rfl ?_
  refine wpAny_bind (wpAny_fieldsOf ho h4 ?_)
  rw [h6]
  refine wpAny_bind (wpAny_dictGet_of (k := ("flags" : Str)) (by simp [PySem.strKind, Value.isStrOf]) hd' ?_)
  rw [hf]
  refine wpAny_bind (wpAny_pure (wpAny_bind (wpAny_pure ?_)))
  refine wpAny_ite_false (by simp) ?_
  refine wpAny_pure ?_
  refine wpAny_bind ?_
  unfold reGroupText
  refine wpAny_ite_false (by simp; omega) ?_
  show wpAny _ _ (reTextOf (.bytes b t') >>= _) _ _ _
  refine wpAny_bind (wpAny_of_eq text_eq ?_)
  show wpAny _ _ (mkBytes (((b.map (fun c : UInt8 => c.toNat)).extract (18 : Int).toNat ((18 + k : Nat) : Int).toNat).map (·.toUInt8))) _ _ _
  have e1 : ((b.map (fun c : UInt8 => c.toNat)).extract (18 : Int).toNat ((18 + k : Nat) : Int).toNat).map (·.toUInt8) = b.extract 18 (18 + k) := by
    rw [Int.toNat_natCast, ← Array.map_extract, Array.map_map]
    have : ((fun x : Nat => x.toUInt8) ∘ fun c : UInt8 => c.toNat) = fun c => c := by
      funext c; simp
    rw [this, Array.map_id']; rfl
  rw [e1]
  refine PySem.wpAny_mkBytes ?_ (Nat.le_trans (by simp; omega : (b.extract 18 (18 + k)).size ≤ 10000) (by decide))
  refine wpAny_pure ⟨_, rfl, ?_, _, rfl⟩
  exact .toks (Nat.le_succ_of_le (Nat.le_succ _))
end Mine
namespace Mine
open PySem PySem.Calls PyProof.Rows PySem.W
variable {C : Cx} {n : Nat} {nm : Names} {Γ : Gam}
open PySem.Builtin

noncomputable def joinB : List (List UInt8) → List UInt8
  | [] => []
  | [w] => w
  | w :: r => w ++ 32 :: joinB r
noncomputable def good (w : List UInt8) : Prop := w ≠ [] ∧ ∀ c ∈ w, Bytes.isSpace c = false
theorem good_drop {w t : List UInt8} (h : good w) : (w ++ t).dropWhile Bytes.isSpace = w ++ t := by
  obtain ⟨h1, h2⟩ := h
  cases w with
  | nil => exact absurd rfl h1
  | cons c w => rw [List.cons_append, List.dropWhile_cons_of_neg (by rw [h2 c (.head _)]; decide)]
theorem take_all : ∀ {w t : List UInt8}, (∀ c ∈ w, Bytes.isSpace c = false) → (w ++ 32 :: t).takeWhile (fun c => !Bytes.isSpace c) = w ∧ (w ++ 32 :: t).dropWhile (fun c => !Bytes.isSpace c) = 32 :: t
  | [], t, _ => by
    have : Bytes.isSpace 32 = true := rfl
    simp [this]
  | c :: w, t, h => by
    obtain ⟨h1, h2⟩ := take_all (w := w) (t := t) fun d hd => h d (.tail _ hd)
    have hc := h c (.head _)
    constructor
    · simp only [List.cons_append, List.takeWhile_cons, hc, Bool.not_false, if_true]; rw [h1]
    · simp only [List.cons_append, List.dropWhile_cons, hc, Bool.not_false, if_true]; rw [h2]
theorem take_last : ∀ {w : List UInt8}, (∀ c ∈ w, Bytes.isSpace c = false) → w.takeWhile (fun c => !Bytes.isSpace c) = w ∧ w.dropWhile (fun c => !Bytes.isSpace c) = []
  | [], _ => ⟨rfl, rfl⟩
  | c :: w, h => by
    obtain ⟨h1, h2⟩ := take_last (w := w) fun d hd => h d (.tail _ hd)
    have hc := h c (.head _)
    constructor
    · simp only [List.takeWhile_cons, hc, Bool.not_false, if_true]; rw [h1]
    · simp only [List.dropWhile_cons, hc, Bool.not_false, if_true]; rw [h2]
theorem words_nil (f l : Nat) : Bytes.words (f + 1) l [] = [] := rfl
theorem words_sp (f l : Nat) (t : List UInt8) : Bytes.words (f + 1) l (32 :: t) = Bytes.words (f + 1) l t := by
  unfold Bytes.words
  have : (32 :: t).dropWhile Bytes.isSpace = t.dropWhile Bytes.isSpace := rfl
  rw [this]
theorem words_go {w t : List UInt8} (f l : Nat) (h : good w) : Bytes.words (f + 1) (l + 1) (w ++ t) = ((w ++ t).takeWhile fun c => !Bytes.isSpace c) :: Bytes.words f l ((w ++ t).dropWhile fun c => !Bytes.isSpace c) := by
  have e := good_drop (t := t) h
  obtain ⟨h1, h2⟩ := h
  cases w with
  | nil => exact absurd rfl h1
  | cons c w =>
    show (match ((c :: w) ++ t).dropWhile Bytes.isSpace with | [] => [] | rest => _) = _
    rw [e]
    rfl
theorem words_join : ∀ (ws : List (List UInt8)) (f l : Nat), (∀ w ∈ ws, good w) → ws.length < f → ws.length ≤ l → Bytes.words f l (joinB ws) = ws
  | [], 0, l, _, h, _ => by simp at h
  | [], f + 1, l, _, _, _ => rfl
  | [w], 0, _, _, h, _ => by simp at h
  | [w], 1, _, _, h, _ => by simp at h
  | [w], _, 0, _, _, h => by simp at h
  | [w], f + 2, l + 1, hg, _, _ => by
    have g := hg w (.head _)
    have := words_go (t := []) (f + 1) l g
    rw [List.append_nil] at this
    obtain ⟨h1, h2⟩ := take_last g.2
    show Bytes.words (f + 2) (l + 1) w = _
    rw [this, h1, h2]; rfl
  | w :: v :: r, 0, _, _, h, _ => by simp at h
  | w :: v :: r, 1, _, _, h, _ => by simp at h
  | w :: v :: r, _, 0, _, _, h => by simp at h
  | w :: v :: r, f + 2, l + 1, hg, hf, hl => by
    have g := hg w (.head _)
    have ih := words_join (v :: r) (f + 1) l (fun x hx => hg x (.tail _ hx)) (by simp at hf ⊢; omega) (by simp at hl ⊢; omega)
    obtain ⟨h1, h2⟩ := take_all (t := joinB (v :: r)) g.2
    show Bytes.words (f + 2) (l + 1) (w ++ 32 :: joinB (v :: r)) = _
    rw [words_go (f + 1) l g, h1, h2, words_sp, ih]
theorem joinB_len : ∀ (ws : List (List UInt8)), (∀ w ∈ ws, good w) → ws.length ≤ (joinB ws).length
  | [], _ => Nat.le_refl _
  | [w], h => by
    have := (h w (.head _)).1
    cases w with
    | nil => exact absurd rfl this
    | cons c w => simp [joinB]
  | w :: v :: r, h => by
    have ih := joinB_len (v :: r) fun x hx => h x (.tail _ hx)
    simp only [joinB, List.length_append, List.length_cons] at ih ⊢
    omega
theorem joined_go (f : List UInt8) : ∀ (ws : List (List UInt8)) (k : Nat) (out : Array UInt8), 0 < k →
    ((ws.map List.toArray).zipIdx k).foldl (fun out (p : Array UInt8 × Nat) => (if p.2 > 0 then out ++ #[(32 : UInt8)] else out) ++ p.1) out = out ++ (ws.flatMap fun w => 32 :: w).toArray
  | [], k, out, _ => by simp
  | w :: ws, k, out, h => by
    rw [List.map_cons, List.zipIdx_cons, List.foldl_cons, joined_go f ws (k + 1) _ (Nat.succ_pos _)]
    simp only [if_pos h]
    apply Array.toList_inj.mp
    simp
theorem joinB_flat : ∀ (w : List UInt8) (r : List (List UInt8)), joinB (w :: r) = w ++ r.flatMap fun v => 32 :: v
  | w, [] => by simp [joinB]
  | w, v :: r => by
    show w ++ 32 :: joinB (v :: r) = _
    rw [joinB_flat v r]; simp
theorem joined_eq (ws : List (List UInt8)) : Bytes.joined #[32] (ws.map List.toArray) = (joinB ws).toArray := by
  unfold Bytes.joined
  cases ws with
  | nil => rfl
  | cons w r =>
    rw [List.map_cons, List.zipIdx_cons, List.foldl_cons]
    have := joined_go [] r 1 (#[] ++ w.toArray) (by decide)
    have e : (if (0 : Nat) > 0 then (#[] : Array UInt8) ++ #[32] else #[]) ++ w.toArray = #[] ++ w.toArray := rfl
    rw [joinB_flat]
    refine Eq.trans this ?_
    apply Array.toList_inj.mp
    simp
end Mine
namespace Mine
open PySem PySem.Calls PyProof.Rows PySem.W
variable {C : Cx} {n : Nat} {nm : Names} {Γ : Gam}
open PySem.Builtin

noncomputable abbrev Byts (ws : List (List UInt8)) : List D := ws.map fun w => D.byt w.toArray
theorem mapM_new {M : Model} {A : Around} {E : Value → Shared → Prop} {Q : List Value → Shared → Prop} {h : Heap} {own : Own} : ∀ (ws : List (List UInt8)) (s : Shared), s.heap = h → (∀ w ∈ ws, w.length ≤ sizeLine) →
    (∀ vs t, s.toks ≤ t → Reps h own (Byts ws) vs → Q vs { s with toks := t }) → wpAny M A (ws.mapM fun w => Bytes.Kind.new .bytes w.toArray) Q E s
  | [], s, e, _, k => by
    rw [List.mapM_nil]; exact wpAny_pure (k [] s.toks (Nat.le_refl _) rfl)
  | w :: ws, s, e, hz, k => by
    rw [List.mapM_cons]
    refine wpAny_bind (PySem.wpAny_mkBytes ?_ (by simpa using hz w (.head _)))
    refine wpAny_bind (mapM_new (h := h) (own := own) ws _ e (fun v hv => hz v (.tail _ hv)) fun vs t ht hr => wpAny_pure ?_)
    exact k (_ :: vs) t (Nat.le_trans (Nat.le_succ _) ht) ⟨_, vs, rfl, ⟨_, rfl⟩, hr⟩
theorem any_sp {w : List UInt8} (h : ∀ c ∈ w, Bytes.isSpace c = false) : w.toArray.any Bytes.isSpace = false := by
  rw [List.any_toArray, List.any_eq_false]
  intro c hc; rw [h c hc]; decide
theorem Cal.splt {ws : List (List UInt8)} (hg : ∀ w ∈ ws, good w) (hz : (joinB ws).length ≤ 10000) : Cal C (n + 1) (.builtin "bytes.split") [.byt (joinB ws).toArray] (.lst (Byts ws)) := fun A s own vs a w hr => by
  obtain ⟨v, r, rfl, ⟨t, rfl⟩, hn⟩ := hr
  cases hn
  refine wpAny_call_entry sl_split (typeIs_bytes _ _ _) en_split ?_ (ar_split _)
  unfold Builtin.«bytes.split» Bytes.splitM
  refine wpAny_bind (wpAny_of_eq (show Bytes.bindOptional _ "split" ["sep", "maxsplit"] [] [] = pure [none, none] from rfl) ?_)
  refine wpAny_bind (wpAny_pure ?_)
  refine wpAny_bind (wpAny_of_eq (show Bytes.payload (.bytes (joinB ws).toArray t) = pure (joinB ws).toArray from rfl) ?_)
  refine wpAny_bind (wpAny_rule ?_)
  have hlen : ∀ w ∈ ws, w.length ≤ sizeLine := fun v hv => by
    have : v.length ≤ (joinB ws).length := by
      clear hz hg
      induction ws with
      | nil => cases hv
      | cons x r ih =>
        rw [joinB_flat]
        rcases List.mem_cons.mp hv with rfl | hv
        · simp
        · simp only [List.length_append]
          have : v.length ≤ (r.flatMap fun v => 32 :: v).length := by
            obtain ⟨a, b, rfl⟩ := List.append_of_mem hv
            simp; omega
          omega
    exact Nat.le_trans (Nat.le_trans this hz) (by decide)
  have hwl := joinB_len ws hg
  rw [if_pos (show (-1 : Int) < 0 by decide)]
  refine wpAny_ite ?_
  by_cases hc : (decide ((joinB ws).toArray.size + 1 > 0) && !(joinB ws).toArray.isEmpty && !(joinB ws).toArray.any Bytes.isSpace) = true
  · rw [if_pos hc]
    rw [Bool.and_eq_true, Bool.and_eq_true] at hc
    obtain ⟨⟨_, c1⟩, c2⟩ := hc
    have hone : ∃ w, ws = [w] := by
      cases ws with
      | nil => simp [joinB] at c1
      | cons w r =>
        cases r with
        | nil => exact ⟨w, rfl⟩
        | cons v r =>
          exfalso
          have : (joinB (w :: v :: r)).toArray.any Bytes.isSpace = true := by
            rw [List.any_toArray, List.any_eq_true]
            exact ⟨32, by simp [joinB], rfl⟩
          rw [this] at c2; cases c2
    obtain ⟨w₀, rfl⟩ := hone
    refine wpAny_bind (wpAny_of_eq (show Bytes.Kind.same .bytes (.bytes (joinB [w₀]).toArray t) = pure (.bytes (joinB [w₀]).toArray t) from rfl) ?_)
    refine wpAny_bind (PySem.wpAny_newList (wpAny_pure ⟨_, rfl, ?_⟩) (Nat.le_of_ble_eq_true rfl))
    exact ⟨.push (t := s.toks), _, [_], rfl, w.new, ⟨0, Heap.get?_push_size _ rfl⟩, ⟨_, [], rfl, ⟨t, rfl⟩, rfl⟩⟩
  · rw [if_neg hc]
    have e : Bytes.words ((joinB ws).toArray.size + 1) ((joinB ws).toArray.size + 1) (joinB ws).toArray.toList = ws := words_join ws _ _ hg (by simp; omega) (by simp; omega)
    show wpAny _ _ (List.mapM (fun w => Bytes.Kind.new .bytes w.toArray) (Bytes.words ((joinB ws).toArray.size + 1) ((joinB ws).toArray.size + 1) (joinB ws).toArray.toList) >>= _) _ _ s
    rw [e]
    refine wpAny_bind (mapM_new (h := s.heap) (own := own) ws s rfl hlen fun vs t ht hr => ?_)
    have hl : vs.length = ws.length := by rw [hr.length]; simp
    refine wpAny_bind (PySem.wpAny_newList (wpAny_pure ⟨_, rfl, ?_⟩) (by rw [hl]; exact Nat.le_trans (Nat.le_trans hwl hz) (by decide)))
    have y : Step No s { s with heap := s.heap.push { cls := .type "list", data := .seq vs.toArray }, toks := t } := .push ht
    exact ⟨y, _, vs, rfl, w.new, ⟨0, Heap.get?_push_size _ rfl⟩, hr.stepN y⟩
theorem Mt.splt {b : Array UInt8} : Mt C (.byt b) "split" "bytes.split" := fun A s own v pl Q w hr hq => by
  obtain ⟨t, rfl⟩ := hr
  exact getMethod_builtin (typeIs_bytes _ _ _) pa_byt sl_split ty_split (fun a e => by cases e) hq
theorem Mt.join {b : Array UInt8} : Mt C (.byt b) "join" "bytes.join" := fun A s own v pl Q w hr hq => by
  obtain ⟨t, rfl⟩ := hr
  exact getMethod_builtin (typeIs_bytes _ _ _) pa_byt sl_join ty_join (fun a e => by cases e) hq

theorem take_quiet {id : String} {b : Array UInt8} {t : Tok} : Bytes.takeBufferQuiet? id (.bytes b t) 0 = pure (some (b, none)) := by
  have hb : Bytes.buffer? id (.bytes b t) (full := (0 : Int) == Bytes.fullReadOnly) = pure (some b) := by
    unfold Bytes.buffer?
    rw [KBy.special_eq KBy.look_buffer, KBy.own_buffer, KBy.own_release]
    kernel_rfl
  unfold Bytes.takeBufferQuiet? Bytes.takeBuffer?
  rw [KBy.special_eq KBy.look_buffer, KBy.own_buffer, hb]
  kernel_rfl
theorem letgo_join {M : Model} {A : Around} {E : Value → Shared → Prop} {s : Shared} {Q : Unit → Shared → Prop} (keep : List Value) (h : Q () s) : ∀ (l : List (Value × Option Value)), (∀ p ∈ l, p.2 = none) → wpAny M A (Bytes.joinLetGo l keep) Q E s
  | [], _ => wpAny_pure h
  | (x, none) :: l, k => by
    show wpAny M A (letGo [x] _ >>= fun _ => Bytes.joinLetGo l keep) Q E s
    refine wpAny_bind (wpAny_letGo ?_)
    exact letgo_join keep h l fun p hp => k p (.tail _ hp)
  | (x, some y) :: l, k => by have := k _ (.head _); cases this
noncomputable abbrev JS := Array (Array UInt8) × List (Value × Option Value)
noncomputable def JInv (ws : List (List UInt8)) (k : Nat) (p : JS) : Prop := p.1 = ((ws.take k).map List.toArray).toArray ∧ ∀ q ∈ p.2, q.2 = none ∧ q.1.onHeap = false
theorem join_loop {M : Model} {A : Around} {E : Value → Shared → Prop} {s : Shared} {Q : JS → Shared → Prop} (ws : List (List UInt8)) (f : Nat → JS → Sem (ForInStep JS))
    (hf : ∀ (k : Nat) (p : JS), k < ws.length → JInv ws k p → wpAny M A (f k p) (fun r s' => s' = s ∧ ∃ p', r = .yield p' ∧ JInv ws (k + 1) p') E s) (h : ∀ p, JInv ws ws.length p → Q p s) {m : Nat} (hm : m = ws.length) :
    wpAny M A (forIn [:m] ((#[], []) : JS) f) Q E s := by
  subst hm
  rw [Std.Legacy.Range.forIn_eq_forIn_range']
  have e : List.range' [:ws.length].start [:ws.length].size [:ws.length].step = List.range' 0 ws.length := by simp [Std.Legacy.Range.size]
  rw [e]
  refine wpAny_forIn_list f (fun rest p s' => s' = s ∧ ∃ k, rest = List.range' k (ws.length - k) ∧ k ≤ ws.length ∧ JInv ws k p) Q ?_ ?_ _ _ ⟨rfl, 0, rfl, Nat.zero_le _, rfl, by simp⟩
  · rintro x rest p s' ⟨rfl, k, hk, hle, hp⟩
    have hlt : k < ws.length := by
      rcases Nat.lt_or_ge k ws.length with h | h
      · exact h
      · have : ws.length - k = 0 := by omega
        rw [this] at hk; cases hk
    have e2 : ws.length - k = (ws.length - (k + 1)) + 1 := by omega
    rw [e2, List.range'_succ] at hk
    obtain ⟨rfl, rfl⟩ := List.cons.inj hk
    refine wpAny_mono (hf x p hlt hp) (fun r s'' ⟨es, p', er, hp'⟩ => ?_) fun _ _ e => e
    subst es er
    exact ⟨rfl, x + 1, rfl, hlt, hp'⟩
  · rintro p s' ⟨rfl, k, hk, hle, hp⟩
    have : k = ws.length := by
      rcases Nat.lt_or_ge k ws.length with h | h
      · have e2 : ws.length - k = (ws.length - (k + 1)) + 1 := by omega
        rw [e2, List.range'_succ] at hk; cases hk
      · omega
    subst this
    exact h p hp
theorem sum_go : ∀ (ws : List (List UInt8)) (a : Nat), (ws.map List.toArray).foldl (fun (x1 : Nat) (x2 : Array UInt8) => x1 + x2.size) a = a + (ws.map List.length).sum
  | [], a => by simp
  | w :: ws, a => by rw [List.map_cons, List.foldl_cons, sum_go ws]; simp; omega
theorem sum_join : ∀ (ws : List (List UInt8)), (ws.map List.length).sum ≤ (joinB ws).length
  | [] => Nat.le_refl _
  | w :: r => by
    rw [joinB_flat]
    have : (r.map List.length).sum ≤ (r.flatMap fun v => 32 :: v).length := by
      induction r with
      | nil => exact Nat.le_refl _
      | cons v r ih => simp at ih ⊢; omega
    simp at this ⊢; omega
theorem join_room {ws : List (List UInt8)} {p : Array (Array UInt8)} (hz : (joinB ws).length ≤ 10000) (hl : ws.length ≤ 1000) (hp : p = ((ws.take ws.length).map List.toArray).toArray) :
    Bytes.tooLong (Array.foldl (fun x1 x2 => x1 + x2.size) ((#[32] : Array UInt8).size * (p.size - 1)) p) = false := by
  have h1 := sum_join ws
  rw [hp, List.take_of_length_le (Nat.le_refl _), List.foldl_toArray, sum_go]
  have : (#[32] : Array UInt8).size * ((ws.map List.toArray).toArray.size - 1) ≤ 1000 := by simp; omega
  exact KBy.tooLong_not (by omega)
theorem Cal.join {ws : List (List UInt8)} (hz : (joinB ws).length ≤ 10000) (hl : ws.length ≤ 1000) : Cal C (n + 1) (.builtin "bytes.join") [.byt #[32], .lst (Byts ws)] (.byt (joinB ws).toArray) := fun A s own vs a w hr => by
  obtain ⟨v, r, rfl, ⟨t, rfl⟩, v', r', rfl, ⟨l, items, rfl, no, hli, hr⟩, hn⟩ := hr
  cases hn
  refine wpAny_call_entry sl_join (typeIs_bytes _ _ _) en_join ?_ (ar_join _ _)
  unfold Builtin.«bytes.join» Bytes.joinM
  refine wpAny_bind (wpAny_of_eq (show selfAndOne _ ⟨[.bytes #[32] t, .ref l], []⟩ = pure (.bytes #[32] t, .ref l) from rfl) ?_)
  refine wpAny_bind ?_
  obtain ⟨m, ho⟩ := id hli
  have hi := hli.is
  unfold Bytes.joinItems
  refine wpAny_bind (wpAny_typeOf hi.typeIs ?_)
  refine wpAny_ite_true rfl ?_
  refine wpAny_pure ?_
  refine wpAny_bind (wpAny_seqItems ho rfl ?_)
  have hlen : items.length = ws.length := by rw [hr.length]; simp
  refine wpAny_ite_true rfl ?_
  cases hws : ws with
  | nil =>
    subst hws
    cases hr
    refine wpAny_bind ?_
    refine join_loop [] _ (fun k p hk _ => by simp at hk) (fun p hp => ?_) rfl
    obtain ⟨hp1, hp2⟩ := hp
    refine wpAny_bind (wpAny_of_eq (show Bytes.payload (.bytes #[32] t) = pure #[32] from rfl) ?_)
    refine wpAny_ite_false (decide_eq_false (by rw [join_room hz hl hp1]; decide)) ?_
    have e : Bytes.joined #[32] p.1.toList = (joinB []).toArray := by
      rw [hp1, List.take_of_length_le (Nat.le_refl _)]
      exact joined_eq _
    rw [e]
    refine wpAny_bind (PySem.wpAny_mkBytes ?_ (Nat.le_trans (by simpa using hz : (joinB []).toArray.size ≤ 10000) (by decide)))
    refine wpAny_bind (wpAny_holding (wpAny_point ?_))
    refine wpAny_bind (letgo_join _ ?_ _ (fun q hq => (hp2 q hq).1))
    exact wpAny_pure ⟨_, rfl, .toks, _, rfl⟩
  | cons w₀ r =>
    subst hws
    have hget := hr
    obtain ⟨v, vr, rfl, ⟨u, rfl⟩, hr'⟩ := hr
    cases r with
    | nil =>
      cases hr'
      refine wpAny_bind (wpAny_typeOf (typeIs_bytes _ _ _) ?_)
      refine wpAny_ite_true rfl ?_
      exact wpAny_bind (wpAny_rule (wpAny_pure ⟨_, rfl, .refl .., u, rfl⟩))
    | cons w₁ r =>
      obtain ⟨v', vr', rfl, hv', hr''⟩ := hr'
      refine wpAny_bind ?_
      refine join_loop (w₀ :: w₁ :: r) _ (fun k p hk hp => ?_) (fun p hp => ?_) hlen
      · obtain ⟨hp1, hp2⟩ := hp
        obtain ⟨x, hx1, y, hx2⟩ := hget.get (i := k) (d := .byt ((w₀ :: w₁ :: r)[k]).toArray) (by rw [List.getElem?_map, List.getElem?_eq_getElem hk]; rfl)
        subst hx2
        refine wpAny_bind (wpAny_seqItems ho rfl ?_)
        have hx : (Value.bytes w₀.toArray u :: v' :: vr').toArray.getD k .none = .bytes ((w₀ :: w₁ :: r)[k]).toArray y := by
          rw [Array.getD_eq_getD_getElem?, List.getElem?_toArray, hx1]; rfl
        have hany : (p.2.any fun x => x.fst.onHeap) = false := by
          rw [List.any_eq_false]; intro q hq; rw [(hp2 q hq).2]; decide
        refine wpAny_ite_false (by rw [hany]; rfl) ?_
        refine wpAny_bind (wpAny_holding ?_)
        rw [hx]
        refine wpAny_of_eq take_quiet ?_
        refine wpAny_bind (wpAny_seqItems ho rfl ?_)
        refine wpAny_ite_false (by simp) ?_
        refine wpAny_pure ⟨rfl, _, rfl, ?_, ?_⟩
        · show p.1.push _ = _
          have e : ((w₀ :: w₁ :: r).take (k + 1)).map List.toArray = ((w₀ :: w₁ :: r).take k).map List.toArray ++ [((w₀ :: w₁ :: r)[k]).toArray] := by
            rw [List.take_add_one, List.getElem?_eq_getElem hk, List.map_append]; rfl
          rw [hp1, e, List.push_toArray]
        · intro q hq
          rcases List.mem_append.mp hq with hq | hq
          · exact hp2 q hq
          · rcases List.mem_singleton.mp hq with rfl; exact ⟨rfl, rfl⟩
      · skip
        obtain ⟨hp1, hp2⟩ := hp
        refine wpAny_bind (wpAny_of_eq (show Bytes.payload (.bytes #[32] t) = pure #[32] from rfl) ?_)
        refine wpAny_ite_false (decide_eq_false (by rw [join_room hz hl hp1]; decide)) ?_
        have e : Bytes.joined #[32] p.1.toList = (joinB (w₀ :: w₁ :: r)).toArray := by
          rw [hp1, List.take_of_length_le (Nat.le_refl _)]
          exact joined_eq _
        rw [e]
        refine wpAny_bind (PySem.wpAny_mkBytes ?_ (Nat.le_trans (by simpa using hz : (joinB (w₀ :: w₁ :: r)).toArray.size ≤ 10000) (by decide)))
        refine wpAny_bind (wpAny_holding (wpAny_point ?_))
        refine wpAny_bind (letgo_join _ ?_ _ (fun q hq => (hp2 q hq).1))
        exact wpAny_pure ⟨_, rfl, .toks, _, rfl⟩
end Mine
namespace Mine
open PySem PySem.Calls PyProof.Rows PySem.W
variable {C : Cx} {n : Nat} {nm : Names} {Γ : Gam}
open PySem.Builtin

/-- a call of a method, as the model does it -/
noncomputable def MethEq (o : Expr) (name : Str) (ap p : Pos) (args : List Expr) : Prop := ∀ env : Env, ∃ pl, PySem.eval (.Call (.Attribute o name ap) args [] p) env = (do
      let ov ← PySem.eval o env
      standAt ap.atName
      let (f, first) ← holding [ov] (getMethod ov name pl)
      callWith p f first (backTo p (starEach args env)) [])
/-- the three statements of ParseFlags, over a text that matches -/
theorem pf_stmts (G : Gl C) {c d : Addr} (P : Pat C 50 c d) {b : Array UInt8} {ws : List (List UInt8)} (T : Txt1 b (joinB ws).length) (hx : b.extract 18 (18 + (joinB ws).length) = (joinB ws).toArray) (hg : ∀ w ∈ ws, good w)
    {p1 p2 p3 p4 p5 p6 p7 p8 p9 p10 p11 p12 p13 p14 p15 ap1 ap2 ap3 : Pos} {kd : Nat} {bb : List Stmt} {Q : Out → Prop}
    (l1 : nm.lookup ("mo" : Str) = some .local) (l2 : nm.lookup ("resp" : Str) = some .local) (l3 : nm.lookup ("Flags" : Str) = some .globalImplicit) (l4 : nm.lookup ("tuple" : Str) = some .globalImplicit) (hQ : Q (.ret (.tup (Byts ws))))
    (me1 : MethEq (.Name "Flags" p2) "match" ap1 p4 [.Name "resp" p3]) (me2 : MethEq (.Name "mo" p10) "group" ap2 p12 [.Constant (.str "flags") kd p11]) (me3 : MethEq (.Call (.Attribute (.Name "mo" p10) "group" ap2) [.Constant (.str "flags") kd p11] [] p12) "split" ap3 p13 []) :
    Ex C (n + 1) nm [("resp", .byt b)] noB [.Assign [.Name "mo" p1] (.Call (.Attribute (.Name "Flags" p2) "match" ap1) [.Name "resp" p3] [] p4) p5, .If (.UnaryOp .Not (.Name "mo" p6) p7) bb [] p8,
      .Return (some (.Call (.Name "tuple" p9) [.Call (.Attribute (.Call (.Attribute (.Name "mo" p10) "group" ap2) [.Constant (.str "flags") kd p11] [] p12) "split" ap3) [] [] p13] [] p14)) p15] Q := ⟨fun F A s q a f i => by
  have hz : b.size ≤ 10000 := by simpa using T.hs
  have hk : 18 + (joinB ws).length ≤ b.size := by have := T.hsz; simp at this; omega
  have hjz : (joinB ws).length ≤ 10000 := by omega
  obtain ⟨o, vs, items, e, h1, h2, h3, h4, _⟩ := P.ob
  obtain ⟨pl1, he1⟩ := me1 F.env
  obtain ⟨pl2, he2⟩ := me2 F.env
  obtain ⟨pl3, he3⟩ := me3 F.env
  refine wpAny_execs_cons (wpAny_Assign_Name (MethodCall_ (pl := pl1) (bot_mono ((G.glob (p := p2) (v := .ref 50) (by with_unfolding_all rfl) l3 (by decide +kernel)).go F A s q a f) fun v s₁ ⟨y, z⟩ => ?_) he1) rfl)
  cases z
  have f₁ := f.step y
  refine getMethod_builtin ⟨o, f₁.wd.base _ _ h1, h2⟩ pa_pat sl_match ty_match (fun a e => by cases e; exact ⟨o, f₁.wd.base _ _ h1, h3⟩) ?_
  refine callWith_method1 (bot_mono ((Ev.loc (p := p3) (d := .byt b) lk_here l2 (by decide +kernel)).go F A s₁ q a f₁ |> fun h => (Evs.cons ⟨fun F' A' s' q' a' f' => (Ev.loc (p := p3) (d := .byt b) lk_here l2 (by decide +kernel)).go F' A' s' q' a' f'⟩ Evs.nil (fun _ => rfl)).go F A s₁ p4 q a f₁) fun ws' s₂ ⟨y₂, hr⟩ => ?_) rfl rfl
  obtain ⟨v, r', rfl, ⟨t, rfl⟩, hn⟩ := hr
  cases hn
  have f₂ := f₁.step y₂
  refine bot_mono (match_ok P T f₂.wd) fun v s₃ ⟨y₃, m, tp, e1, e2, e3, M⟩ => ?_
  subst e1
  have f₃ := f₂.step y₃
  refine wpAny_mono (store_ok (E := Bot) (I := noB) (d := .raw (.ref m)) f₃ (.inl (q ▸ l1)) rfl trivial) (fun _ s₄ ⟨y₄, f₄, _⟩ => ?_) fun _ _ x => x
  have hfr : ∀ c, (c = m ∨ c = tp) → ¬ F.mt c := fun c hc hm => by
    have : s₂.heap.get? c = none := by rcases hc with rfl | rfl <;> assumption
    exact f₂.wd.off this (f.mto _ hm)
  have M₄ := M.keep fun c o hc e => y₄.keep c o (hfr c hc) e
  have yy : Step F.mt s s₄ := (((y.trans y₂).trans y₃).non).trans y₄
  show wpAny _ _ (execs (.If _ bb [] p8 :: _) F.env) _ _ s₄
  rw [execs_If]
  refine wpAny_bind (wpAny_standAt (wpAny_bind (wpAny_isTrue_Not (wpAny_isTrue_value (bot_mono ((Ev.loc (p := p6) (d := .raw (.ref m)) lk_here l1 (by decide +kernel)).go F A s₄ q a f₄) fun v s₅ ⟨y₅, z⟩ => ?_) rfl))))
  cases z
  have M₅ := M₄.keep fun c o _ e => y₅.all _ _ e
  refine truthy_mat M₅ ?_
  have f₅ := f₄.step y₅
  show wpAny _ _ (execs _ F.env) _ _ s₅
  refine wpAny_execs_cons (wpAny_Return_some ?_)
  show wpAny _ _ (eval (.Name "tuple" p9) F.env >>= fun fv => callWith p14 fv [] (backTo p14 (starEach [_] F.env)) (backToKw p14 (keywordEach [] F.env))) _ _ s₅
  refine wpAny_bind (bot_mono ((G.bi (p := p9) (by with_unfolding_all rfl) bi_tuple l4 (by decide +kernel) (by decide +kernel)).go F A s₅ q a f₅) fun v s₆ ⟨y₆, z⟩ => ?_)
  cases z
  have f₆ := f₅.step y₆
  have M₆ := M₅.keep fun c o _ e => y₆.all _ _ e
  refine PyProof.Rows.callWith_type1 ?_ rfl rfl
  refine wpAny_items_cons ?_ rfl
  refine MethodCall_ (pl := pl3) (MethodCall_ (pl := pl2) (bot_mono ((Ev.loc (p := p10) (d := .raw (.ref m)) lk_here l1 (by decide +kernel)).go F A s₆ q a f₆) fun v s₇ ⟨y₇, z⟩ => ?_) he2) he3
  cases z
  have f₇ := f₆.step y₇
  have M₇ := M₆.keep fun c o _ e => y₇.all _ _ e
  obtain ⟨t₇, lim, z₇, e₇, g1, g2⟩ := id M₇.ob
  refine getMethod_builtin ⟨_, g1, rfl⟩ pa_mat sl_group ty_group (fun a e => by cases e; exact ⟨_, g1, rfl⟩) ?_
  refine callWith_method1 (bot_mono ((Evs.cons (Ev.str (C := C) (n := n + 1) (nm := nm) (Γ := []) (k := kd) (p := p11)) Evs.nil (fun _ => rfl)).go F A s₇ p12 q a (f₇.sub Sub.nil)) fun ws' s₈ ⟨y₈, hr⟩ => ?_) rfl rfl
  obtain ⟨v, r', rfl, ⟨t₈, rfl⟩, hn⟩ := hr
  cases hn
  have f₈ := f₇.step y₈
  have M₈ := M₇.keep fun c o _ e => y₈.all _ _ e
  refine bot_mono (group_ok P M₈ hk hz f₈.wd) fun v s₉ ⟨y₉, u, e9⟩ => ?_
  subst e9
  rw [hx]
  have f₉ := f₈.step y₉
  refine getMethod_builtin (typeIs_bytes _ _ _) pa_byt sl_split ty_split (fun a e => by cases e) ?_
  refine callWith_method0 (bot_mono (Cal.splt (n := n) hg hjz A s₉ F.own [_] a f₉.wd (.one ⟨u, rfl⟩)) fun v s₁₀ ⟨y₁₀, z₁₀⟩ => ?_)
  refine wpAny_items_nil ?_
  have f₁₀ := f₉.step y₁₀
  have hlw : (Byts ws).length ≤ sizeLine := by
    have := joinB_len ws hg
    simp; exact Nat.le_trans (Nat.le_trans this hjz) (by decide)
  refine bot_mono (Cal.tupl (n := n) hlw A s₁₀ F.own [v] a f₁₀.wd (.one z₁₀)) fun v s₁₁ ⟨y₁₁, z₁₁⟩ => ?_
  have yl : Step No s₄ s₁₁ := (((((y₅.trans y₆).trans y₇).trans y₈).trans y₉).trans y₁₀).trans y₁₁
  exact ⟨yy.trans yl.non, _, hQ, z₁₁.weak f₁₀.reto⟩⟩
end Mine
namespace Mine
open PySem PySem.Calls PyProof.Rows PySem.W
variable {C : Cx} {n : Nat} {nm : Names} {Γ : Gam}

noncomputable abbrev preB : List UInt8 := [42, 32, 55, 32, 70, 69, 84, 67, 72, 32, 40, 70, 76, 65, 71, 83, 32, 40]
noncomputable abbrev sufB : List UInt8 := [41, 32, 85, 73, 68, 32, 49, 41]
noncomputable def mid (c : UInt8) : Bool := c == 32 || (66 ≤ c && c ≤ 72)
theorem joinB_mid : ∀ (ws : List (List UInt8)), (∀ w ∈ ws, ∀ c ∈ w, mid c = true) → ∀ c ∈ joinB ws, mid c = true
  | [], _, c, hc => by cases hc
  | [w], h, c, hc => h w (.head _) c hc
  | w :: v :: r, h, c, hc => by
    rcases List.mem_append.mp hc with hc | hc
    · exact h w (.head _) c hc
    · rcases List.mem_cons.mp hc with rfl | hc
      · rfl
      · exact joinB_mid (v :: r) (fun x hx => h x (.tail _ hx)) c hc
theorem getD_map (l : List UInt8) (i : Nat) : ((l.toArray).map (·.toNat)).getD i 0 = (l.getD i 0).toNat := by
  rw [Array.getD_eq_getD_getElem?, List.getD_eq_getElem?_getD]
  simp only [List.map_toArray, List.getElem?_toArray, List.getElem?_map]
  cases l[i]? <;> rfl
theorem mid_ne {c : UInt8} (h : mid c = true) : c ≠ 10 ∧ c ≠ 76 ∧ c ≠ 41 := by
  refine ⟨?_, ?_, ?_⟩ <;> (rintro rfl; revert h; decide)
theorem getD_mem {l : List UInt8} {i : Nat} (h : i < l.length) : l.getD i 0 ∈ l := by
  rw [List.getD_eq_getElem?_getD, List.getElem?_eq_getElem h]; exact List.getElem_mem h
theorem getD_right {l r : List UInt8} {i : Nat} (h : l.length ≤ i) : (l ++ r).getD i 0 = r.getD (i - l.length) 0 := by
  rw [List.getD_eq_getElem?_getD, List.getD_eq_getElem?_getD, List.getElem?_append_right h]
theorem getD_left {l r : List UInt8} {i : Nat} (h : i < l.length) : (l ++ r).getD i 0 = l.getD i 0 := by
  rw [List.getD_eq_getElem?_getD, List.getD_eq_getElem?_getD, List.getElem?_append_left h]
theorem flag_text {j : List UInt8} (hj : ∀ c ∈ j, mid c = true) (hl : j.length ≤ 1000) : Txt1 (preB ++ j ++ sufB).toArray j.length := by
  have hs : (((preB ++ j ++ sufB).toArray).map (·.toNat)).size = 26 + j.length := by simp; omega
  have hlen : (preB ++ j ++ sufB).length = 26 + j.length := by simp; omega
  have ge : ∀ i, (((preB ++ j ++ sufB).toArray).map (·.toNat)).getD i 0 = ((preB ++ j ++ sufB).getD i 0).toNat := getD_map _
  have ne : ∀ {c d : UInt8}, c ≠ d → c.toNat ≠ d.toNat := fun h e => h (UInt8.toNat_inj.mp e)
  have h13 : ∀ i, 13 ≤ i → i < 26 + j.length → (preB ++ j ++ sufB).getD i 0 ∈ [65, 71, 83, 32, 40] ++ j ++ sufB := fun i h1 h2 => by
    have e : (preB ++ j ++ sufB).getD i 0 = ([65, 71, 83, 32, 40] ++ j ++ sufB).getD (i - 13) 0 := by
      have : preB ++ j ++ sufB = [42, 32, 55, 32, 70, 69, 84, 67, 72, 32, 40, 70, 76] ++ ([65, 71, 83, 32, 40] ++ j ++ sufB) := by simp
      rw [this, getD_right (by simpa using h1)]; rfl
    rw [e]
    exact getD_mem (by simp; omega)
  refine ⟨fun i hi => ?_, by rw [hs]; omega, by rw [hs]; omega, fun k h1 h2 h3 h4 => ?_, ?_, ?_, ?_, ?_, ?_, ?_, ?_, fun i h1 h2 => ?_, ?_⟩
  · rw [ge]
    refine ne (d := 10) ?_
    have hm := getD_mem (l := preB ++ j ++ sufB) (i := i) (by omega)
    rcases List.mem_append.mp hm with hm | hm
    · rcases List.mem_append.mp hm with hm | hm
      · intro e; rw [e] at hm; revert hm; decide
      · exact (mid_ne (hj _ hm)).1
    · intro e; rw [e] at hm; revert hm; decide
  · rw [ge]
    refine ne (d := 76) ?_
    have hm := h13 (k + 1) (by omega) (by omega)
    rcases List.mem_append.mp hm with hm | hm
    · rcases List.mem_append.mp hm with hm | hm
      · intro e; rw [e] at hm; revert hm; decide
      · exact (mid_ne (hj _ hm)).2.1
    · intro e; rw [e] at hm; revert hm; decide
  · rw [ge]; rfl
  · rw [ge]; rfl
  · rw [ge]; rfl
  · rw [ge]; rfl
  · rw [ge]; rfl
  · rw [ge]; rfl
  · rw [ge]; rfl
  · rw [ge]
    refine ne (d := 41) ?_
    have e : (preB ++ j ++ sufB).getD i 0 = j.getD (i - 18) 0 := by
      rw [List.append_assoc, getD_right (by simpa using h1)]
      rw [getD_left (by simp; omega)]; rfl
    rw [e]
    exact (mid_ne (hj _ (getD_mem (by omega)))).2.2
  · rw [ge]
    have e : (preB ++ j ++ sufB).getD (18 + j.length) 0 = sufB.getD 0 0 := by
      rw [getD_right (by simp; omega)]
      congr 1; simp; omega
    rw [e]; rfl
theorem flag_cut {j : List UInt8} : (preB ++ j ++ sufB).toArray.extract 18 (18 + j.length) = j.toArray := by
  apply Array.toList_inj.mp
  rw [Array.toList_extract]
  simp [List.extract]
end Mine
namespace Mine
open PySem PySem.Calls PyProof.Rows PySem.W PySem.W.X
variable {C : Cx} {n : Nat} {nm : Names} {Γ : Gam}

section
variable {prog : Program} {w : World} {A : Around} {c : Code} {fs : List Frame} {P : End → Shared → Prop} {s : Shared} {K : Flow → Sem Fin} {H : Value → Sem Fin} {gd : Bool → Bool} {lv : List Value → List Value}
theorem sx_wrap {α : Type} {m : Sem α} {K : α → Sem Fin} {H : Value → Sem Fin} {gd : Bool → Bool} {lv : List Value → List Value}
    (h : wpAny (model prog w) (A.over c fs) m (fun a s' => SegX (model prog w) A c (K a) fs s' P) Bot s) : SegX (model prog w) A c (m.wrap K H gd lv) fs s P := by
  rintro Γ p rfl hΓ
  obtain ⟨e, s', hr, hq⟩ := runs_wrap_of_wp (Φ := fun e s' => e.quiet = true ∧ P e s') K H gd lv m (h (Γ.over fs) p (hΓ.over fs)) (fun a p' s' h' => h' Γ p' rfl hΓ) (fun x p' s' h' => h'.elim)
  exact ⟨e, s', hr, hq⟩
theorem sx_bind {α β : Type} {m : Sem α} {f : α → Sem β} {K : β → Sem Fin} {H : Value → Sem Fin} {gd : Bool → Bool} {lv : List Value → List Value}
    (h : wpAny (model prog w) (A.over c fs) m (fun a s' => SegX (model prog w) A c ((f a).wrap K H gd lv) fs s' P) Bot s) : SegX (model prog w) A c ((m >>= f).wrap K H gd lv) fs s P := by
  rw [Sem.bind_eq_wrap', Sem.wrap_wrap]; exact sx_wrap h
theorem sx_pt {l : List Value} {k : Unit → Sem Fin} (h : SegX (model prog w) A c (k ()) fs s P) : SegX (model prog w) A c (.point l k) fs s P :=
  sx_wrap (m := point) (K := k) (H := .raise) (gd := id) (lv := fun _ => l) (wpAny_point h)
theorem sx_at {p : Pos} {k : Unit → Sem Fin} (h : SegX (model prog w) A c (k ()) fs s P) : SegX (model prog w) A c (.at p k) fs s P :=
  sx_wrap (m := standAt p) (K := k) (H := .raise) (gd := id) (lv := id) (wpAny_standAt h)
theorem sx_yield {env : Env} {e : Expr} {ypos pos : Pos} (hfs : splitAtGen fs = none) (hgd : gd false = false) (hfg : fs.any Frame.guarded = false) (hco : env.scope.isCoroutine = false) (hi : interactive env = false)
    (h : wpAny (model prog w) (A.over c fs) (eval e env) (fun v s' => ∀ l k p, (∀ A' s'' P', SegX (model prog w) A' c (K .next) fs s'' P' → SegX (model prog w) A' c (k (.send .none)) fs s'' P') → P (.susp v false l k c p fs) s') Bot s) :
    SegX (model prog w) A c ((exec (.Expr (.Yield (some e) ypos) pos) env).wrap K H gd lv) fs s P := by
  rw [exec_Expr env _ pos hi rfl]
  show SegX _ A c (.at pos fun _ => ((eval e env >>= fun v => (standAt ypos >>= fun _ => yieldOut env v)) >>= fun x => dropValue (.Yield (some e) ypos) pos x).wrap K H gd lv) fs s P
  have hy : ∀ v, yieldOut env v = yieldValue v := fun v => by simp only [yieldOut, hco, Bool.false_eq_true, if_false]
  simp only [hy]
  refine sx_at ?_
  rw [Sem.bind_eq_wrap', Sem.bind_eq_wrap', Sem.wrap_wrap, Sem.wrap_wrap]
  refine sx_wrap (wpAny_mono h (fun v s' h' => ?_) fun _ _ x => x)
  refine sx_at ?_
  show SegX _ A c (.yield v (gd false) _ _) fs s' P
  rw [hgd]
  exact s_yield prog w A c fs P s' v _ _ hfs hfg fun p => h' _ _ p fun A' s'' P' hx => hx
theorem sx_If {t : Expr} {a b r : List Stmt} {p : Pos} {env : Env} {v : Bool}
    (h : wpAny (model prog w) (A.over c fs) (isTrue t env (eval t env)) (fun x s' => x = v ∧ SegX (model prog w) A c ((execs ((bif v then a else b) ++ r) env).wrap K H gd lv) fs s' P) Bot s) : SegX (model prog w) A c ((execs (.If t a b p :: r) env).wrap K H gd lv) fs s P := by
  rw [execs_If]
  refine sx_bind (wpAny_standAt (sx_bind (bot_mono h fun x s' ⟨e, h'⟩ => ?_)))
  subst e
  cases x with
  | true => exact h'
  | false => exact h'
end

/-! plain data that stands by itself -/
noncomputable def atom : D → Bool
  | .tup _ | .lst _ => false
  | _ => true
theorem Rep.atom {h h' : Heap} {own own' : Own} {v : Value} : ∀ {d : D}, Mine.atom d = true → Rep h own d v → Rep h' own' d v
  | .none, _, x => x
  | .bool _, _, x => x
  | .int _, _, x => x
  | .flt _, _, x => x
  | .str _, _, x => x
  | .byt _, _, x => x
  | .raw _, _, x => x
theorem Reps.atoms {h h' : Heap} {own own' : Own} : ∀ {ds : List D} {vs : List Value}, ds.all Mine.atom = true → Reps h own ds vs → Reps h' own' ds vs
  | [], _, _, x => x
  | d :: ds, _, a, ⟨v, r, e, x, y⟩ => by
    rw [List.all_cons, Bool.and_eq_true] at a
    exact ⟨v, r, e, x.atom a.1, y.atoms a.2⟩
/-- a frame of plain words stands where its own places and the base stand -/
theorem Fm.far {F : Fr1} {s s' : Shared} (f : Fm C F Γ s) (hΓ : ∀ x d, Γ.lookup x = some d → Mine.atom d = true) (k : ∀ b o, F.own b → s.heap.get? b = some o → s'.heap.get? b = some o) (kb : ∀ b o, C.h₀.get? b = some o → s.heap.get? b = some o → s'.heap.get? b = some o) (tk : s.toks ≤ s'.toks) : Fm C F Γ s' := by
  refine { f with wd := ⟨fun b o e => kb b o e (f.wd.base b o e), f.wd.nown, fun b e => let ⟨o, z⟩ := f.wd.oal b e; ⟨o, k b o e z⟩, Nat.le_trans f.wd.pos tk⟩, ns := ?_, cel := fun x hx => ?_ }
  · obtain ⟨m, ⟨o, es, ep, h1, h2, r⟩, hm⟩ := f.ns
    exact ⟨m, ⟨o, es, ep, k _ _ (f.mto _ f.mtl) h1, h2, r⟩, fun x d e q => by obtain ⟨v, h1, h2⟩ := hm x d e q; exact ⟨v, h1, h2.atom (hΓ x d e)⟩⟩
  · obtain ⟨c, o, vv, h1, h2, h3, h4, h5, h6, h7, h8, h9⟩ := f.cel x hx
    exact ⟨c, o, vv, h1, h2, h3, k _ _ h2 h4, h5, h6, h7, h8, fun d e => by obtain ⟨v, e1, e2⟩ := h9 d e; exact ⟨v, e1, e2.atom (hΓ x d e)⟩⟩

theorem drawsU {prog : Program} {w : World} {A : Around} (hh : A.handled = none) (it : Addr) (x : Str) (t : Tok) :
    Draws prog w A it [it] x.cps.size (fun i v => ∃ c u, x.cps[i]? = some c ∧ v = .str ⟨#[c]⟩ u) (fun i h => h.IsStrIter it (strIterType x) x t i) := by
  cases ha : x.cps.all (· < 128)
  · have e : strIterType x = "str_iterator" := by simp [strIterType, ha]
    rw [e]; exact Draws.strWide hh it x t
  · have e : strIterType x = "str_ascii_iterator" := by simp [strIterType, ha]
    rw [e]; exact Draws.strAscii hh it x t

theorem Aok.over0 {A : Around} {body : List Stmt} {env : Env} (a : Aok (n + 1) A) : Aok n (A.over (.func body env) []) :=
  ⟨a.handled, Nat.le_trans (Nat.le_of_eq (show A.depth + 0 + 1 + n = A.depth + (n + 1) from by omega)) a.depth, Nat.le_trans (show A.units + 0 + 3 + 10 * n ≤ A.units + 10 * (n + 1) from by omega) a.units⟩
theorem Aok.over1 {A : Around} {body bd od : List Stmt} {env env' : Env} {t : Expr} {it : Value} {kk : Result → Sem Fin} {lv : List Value} {p : Pos} (a : Aok (n + 1) A) : Aok n (A.over (.forLoop t it bd od env') [.ret kk none false lv (.func body env) p []]) :=
  ⟨a.handled, Nat.le_trans (Nat.le_of_eq (show A.depth + 1 + 0 + n = A.depth + (n + 1) from by omega)) a.depth, Nat.le_trans (show A.units + 3 + 0 + 10 * n ≤ A.units + 10 * (n + 1) from by omega) a.units⟩
end Mine
namespace Mine
open PySem PySem.Calls PyProof.Rows PySem.W PySem.W.X
variable {C : Cx} {n : Nat} {nm : Names} {Γ : Gam}

/-- a generator's frame at a turn of its loop over enumerate(text) -/
structure LpS (C : Cx) (F : Fr1) (Γ : Gam) (e it : Addr) (x : Str) (t : Tok) (i : Nat) (s : Shared) : Prop where
  fm : Fm C F Γ s
  en : ∃ old, IsEnum s.heap e it i old
  st : s.heap.IsStrIter it (strIterType x) x t i
  ne : e ≠ it
  eo : ¬ F.own e
  io : ¬ F.own it
  eb : C.h₀.get? e = none
  ib : C.h₀.get? it = none
noncomputable abbrev Gm (F : Fr1) (e it : Addr) : Own := fun b => F.mt b ∨ b = e ∨ b = it
theorem LpS.far {F : Fr1} {e it : Addr} {x : Str} {t : Tok} {i : Nat} {s s' : Shared} (l : LpS C F Γ e it x t i s) (hΓ : ∀ x d, Γ.lookup x = some d → Mine.atom d = true) (k : ∀ b o, F.own b ∨ b = e ∨ b = it → s.heap.get? b = some o → s'.heap.get? b = some o) (kb : ∀ b o, C.h₀.get? b = some o → s.heap.get? b = some o → s'.heap.get? b = some o) (tk : s.toks ≤ s'.toks) : LpS C F Γ e it x t i s' :=
  { l with fm := l.fm.far hΓ (fun b o h => k b o (.inl h)) kb tk, en := let ⟨o, h⟩ := l.en; ⟨o, k _ _ (.inr (.inl rfl)) h⟩, st := let ⟨o, h, r⟩ := l.st; ⟨o, k _ _ (.inr (.inr rfl)) h, r⟩ }

/-- a step that turns the two iterators too -/
theorem Fm.stepX {F : Fr1} {s : Shared} {h' : Heap} {t' : Nat} {e it : Addr} (f : Fm C F Γ s) (eo : ¬ F.own e) (io : ¬ F.own it) (eb : C.h₀.get? e = none) (ib : C.h₀.get? it = none) (hs : ∀ o, s.heap.get? e = some o → sq o = false) (hi : ∀ o, s.heap.get? it = some o → sq o = false)
    (k : ∀ b o, b ≠ e → b ≠ it → s.heap.get? b = some o → h'.get? b = some o) (tk : s.toks ≤ t') : Fm C F Γ { s with heap := h', toks := t' } := by
  have kp : ∀ b o, F.own b → s.heap.get? b = some o → h'.get? b = some o := fun b o h => k b o (fun q => eo (q ▸ h)) (fun q => io (q ▸ h))
  have rp : ∀ {d v}, Rep s.heap F.own d v → Rep h' F.own d v := fun {d v} z => z.mono (fun b o nb q e' => ⟨nb, k b o (fun q' => by rw [q'] at e'; rw [hs _ e'] at q; cases q) (fun q' => by rw [q'] at e'; rw [hi _ e'] at q; cases q) e'⟩) d
  refine { f with wd := ⟨fun b o h => k b o (fun q => by rw [q, eb] at h; cases h) (fun q => by rw [q, ib] at h; cases h) (f.wd.base b o h), f.wd.nown, fun b h => let ⟨o, z⟩ := f.wd.oal b h; ⟨o, kp b o h z⟩, Nat.le_trans f.wd.pos tk⟩, ns := ?_, cel := fun x hx => ?_ }
  · obtain ⟨m, ⟨o, es, ep, h1, h2, r⟩, hm⟩ := f.ns
    exact ⟨m, ⟨o, es, ep, kp _ _ (f.mto _ f.mtl) h1, h2, r⟩, fun x d e q => by obtain ⟨v, h1, h2⟩ := hm x d e q; exact ⟨v, h1, rp h2⟩⟩
  · obtain ⟨c, o, vv, h1, h2, h3, h4, h5, h6, h7, h8, h9⟩ := f.cel x hx
    exact ⟨c, o, vv, h1, h2, h3, kp _ _ h2 h4, h5, h6, h7, h8, fun d e => by obtain ⟨v, e1, e2⟩ := h9 d e; exact ⟨v, e1, rp e2⟩⟩
theorem LpS.esq {F : Fr1} {e it : Addr} {x : Str} {t : Tok} {i : Nat} {s : Shared} (l : LpS C F Γ e it x t i s) : ∀ o, s.heap.get? e = some o → sq o = false := fun o h => by
  obtain ⟨old, z⟩ := l.en; have z' : s.heap.get? e = _ := z; rw [h] at z'; cases z'; rfl
theorem LpS.isq {F : Fr1} {e it : Addr} {x : Str} {t : Tok} {i : Nat} {s : Shared} (l : LpS C F Γ e it x t i s) : ∀ o, s.heap.get? it = some o → sq o = false := fun o h => by
  obtain ⟨o', z, _, hd⟩ := l.st; rw [h] at z; cases z; unfold sq; rw [hd]

theorem gturn {F : Fr1} {A : Around} {P : End → Shared → Prop} {e it : Addr} {x : Str} {t : Tok} {i : Nat} {s : Shared} {fbody ya yb : List Stmt} {kk : Result → Sem Fin} {lv : List Value} {pp py pe pt p3 p4 py2 : Pos} {ts es : List Expr} {k1 k2 : Nat} {te tc : Expr} {Γ₁ : Nat → Nat → Gam} {LC : Code} {fs : List Frame}
    (hΓ : ∀ x d, Γ.lookup x = some d → Mine.atom d = true) (q : F.nm = nm) (ak : Aok 3 A) (h : LpS C F Γ e it x t i s)
    (hLC : LC = .forLoop (.Tuple ts k1 pt) (.ref e) [.If te ya [.If tc yb [.Expr (.Yield (some (.Tuple es k2 py2)) py) pe] p3] p4] [] F.env) (hfs : fs = [.ret kk none false lv (.func fbody F.env) pp []])
    (ha : ∀ i c : Nat, Asns C nm ts [.int i, .str ⟨#[c]⟩] Γ (Γ₁ i c)) (hs : ∀ i c, Sub Γ (Γ₁ i c)) (h1 : ∀ i c, Tst C 2 nm (Γ₁ i c) te false) (h2 : ∀ c, x.cps[i]? = some c → Tst C 2 nm (Γ₁ i c) tc false) (hy : ∀ i c : Nat, Evs C 2 nm (Γ₁ i c) es [.int i, .str ⟨#[c]⟩])
    (item : ∀ c, x.cps[i]? = some c → ∀ l k p a vs s', LpS C F Γ e it x t (i + 1) s' → Step (Gm F e it) s s' → s.heap.get? a = none → PTup s'.heap a vs → (∀ h own, Reps h own [.int i, .str ⟨#[c]⟩] vs) →
      (∀ A' s'' P', SegX (model C.prog C.w) A' LC (.pure (.again LC)) fs s'' P' → SegX (model C.prog C.w) A' LC (k (.send .none)) fs s'' P') → P (.susp (.ref a) false l k LC p fs) s')
    (done : i = x.cps.size → ∀ s', Fm C F Γ s' → StepG F.mt (fun b => b = e ∨ b = it) (fun _ => False) s s' → SegX (model C.prog C.w) A (.func fbody F.env) (kk (.ok .next)) [] s' P) (hi : i ≤ x.cps.size) :
    SegX (model C.prog C.w) A LC (denote table LC) fs s P := by
  have ak2 : Aok 2 (A.over LC fs) := by rw [hLC, hfs]; exact ak.over1
  have hsp : splitAtGen fs = none := by rw [hfs]; rfl
  have hgd : fs.any Frame.guarded = false := by rw [hfs]; rfl
  obtain ⟨old, he⟩ := h.en
  have D := drawsU (prog := C.prog) (w := C.w) (A := (A.over LC fs).in1) ak2.handled it x t
  have hT : denote table LC = (forTurn (.Tuple ts k1 pt) (.ref e) [.If te ya [.If tc yb [.Expr (.Yield (some (.Tuple es k2 py2)) py) pe] p3] p4] [] F.env).onRaise (fun x => do noteFrame x F.env; theTreesLotGoes x) := by rw [hLC]; rfl
  rw [hT, Sem.onRaise_eq_wrap]
  unfold forTurn
  refine sx_bind (wpAny_standAt (sx_bind (wpAny_onRaise ?_)))
  rcases Nat.lt_or_ge i x.cps.size with hlt | hge
  · refine wpAny_with_toks (Nat.le_refl _) (wpAny_pyNext_enum_itemD D he h.st hlt h.ne (by simpa using h.ne) fun v h' tk hp heo hst ht hsz hk htk => ?_)
    obtain ⟨c, u, hc, rfl⟩ := hp
    refine sx_bind (wpAny_letOwnedTupleGo_enum heo fun h₂ he₂ hs₂ => ?_)
    replace hs₂ : Heap.SameBut e h' h₂ := hs₂
    have kp : ∀ b o, b ≠ e → b ≠ it → s.heap.get? b = some o → h₂.get? b = some o := fun b o n1 n2 z => hs₂.extBut b o n1 (hk b o n1 n2 z)
    have hnew : s.heap.get? s.heap.objs.size = none := fresh_none
    have nT : s.heap.objs.size ≠ e := fun z => by rw [z] at hnew; have he' : s.heap.get? e = _ := he; rw [hnew] at he'; cases he'
    have f₂ := h.fm.stepX h.eo h.io h.eb h.ib h.esq h.isq kp htk
    have l₂ : LpS C F Γ e it x t (i + 1) { s with heap := h₂, toks := tk + 1 } :=
      { h with fm := f₂, en := ⟨_, by simpa using he₂⟩, st := hst.extBut hs₂.extBut (Ne.symm h.ne) }
    have y₂ : Step (Gm F e it) s { s with heap := h₂, toks := tk + 1 } := .heap (fun b o nb z => kp b o (fun w => nb (.inr (.inl w))) (fun w => nb (.inr (.inr w))) z) (fun b o z => by
      by_cases w : b = e
      · subst w; exact ⟨_, he₂⟩
      · by_cases w' : b = it
        · subst w'; obtain ⟨o', z', _⟩ := l₂.st; exact ⟨o', z'⟩
        · exact ⟨o, kp b o w w' z⟩) htk
    have hr : Rep h₂ F.own (.tup [.int i, .str ⟨#[c]⟩]) (.ref s.heap.objs.size) := ⟨_, [_, _], rfl, h.fm.wd.new, ⟨0, hs₂.extBut _ _ nT ht⟩, _, _, rfl, ⟨_, rfl⟩, _, _, rfl, ⟨_, rfl⟩, rfl⟩
    refine sx_bind (bot_mono ((Asn.tup (k := k1) (p := pt) (ha i c)).go F (A.over LC fs) { s with heap := h₂, toks := tk + 1 } _ noB q (ak2.le (by omega)) f₂ hr trivial) fun _ s₃ ⟨y₃, f₃, _⟩ => ?_)
    have ge : ∀ {b}, ¬ F.own b → ¬ F.mt b := fun n z => n (h.fm.mto _ z)
    have l₃ : LpS C F (Γ₁ i c) e it x t (i + 1) s₃ := { l₂ with fm := f₃, en := let ⟨o, z⟩ := l₂.en; ⟨o, y₃.keep _ _ (ge h.eo) z⟩, st := let ⟨o, z, r⟩ := l₂.st; ⟨o, y₃.keep _ _ (ge h.io) z, r⟩ }
    have y₀₃ : Step (Gm F e it) s s₃ := y₂.trans (y₃.weak fun b z => .inl z)
    rw [Sem.bind_eq_wrap', Sem.wrap_wrap]
    refine sx_If (v := false) (bot_mono ((h1 i c).go F _ s₃ q ak2 f₃) fun r₁ s₄ ⟨y₄, e₄⟩ => ⟨e₄, ?_⟩)
    refine sx_If (v := false) (bot_mono ((h2 c hc).go F _ s₄ q ak2 (f₃.step y₄)) fun r₂ s₅ ⟨y₅, e₅⟩ => ⟨e₅, ?_⟩)
    have y₃₅ := y₄.trans y₅
    show SegX _ A LC ((execs [.Expr (.Yield (some (.Tuple es k2 py2)) py) pe] F.env).wrap _ _ _ _) fs s₅ P
    rw [execs_cons_wrap]
    refine sx_yield hsp rfl hgd h.fm.co (by unfold interactive; rw [h.fm.kind]; rfl) ?_
    refine wpAny_Tuple (bot_mono ((hy i c).go F _ s₅ _ q ak2 (f₃.step y₃₅)) fun vs s₆ ⟨y₆, hr₆⟩ => ⟨by rw [hr₆.length]; exact Nat.le_of_ble_eq_true rfl, fun l k p hk' => ?_⟩)
    have y₃₆ : Step No s₃ _ := (y₃₅.trans y₆).trans (.push (o := { cls := .type "tuple", data := .seq vs.toArray }) (t := s₆.toks))
    have y := y₀₃.trans y₃₆.non
    refine item c hc l k p _ vs _ { l₃ with fm := (f₃.step y₃₆).sub (hs i c), en := let ⟨o, z⟩ := l₃.en; ⟨o, y₃₆.all _ _ z⟩, st := let ⟨o, z, r⟩ := l₃.st; ⟨o, y₃₆.all _ _ z, r⟩ } y ?_ ⟨0, Heap.get?_push_size _ rfl⟩ (fun h own => hr₆.atoms rfl) fun A' s'' P' hx => hk' A' s'' P' ?_
    · cases z : s.heap.get? s₆.heap.objs.size with
      | none => rfl
      | some o =>
        obtain ⟨o', z'⟩ := (y₀₃.trans (y₃₅.trans y₆).non).alive _ _ z
        rw [fresh_none] at z'; cases z'
    · subst hLC; exact hx
  · have hz : i = x.cps.size := Nat.le_antisymm hi hge
    refine wpAny_pyNext_enum_endD D he (hz ▸ h.st) fun h' hx => ?_
    have kp : ∀ b o, b ≠ e → b ≠ it → s.heap.get? b = some o → h'.get? b = some o := fun b o _ n2 z => hx b o n2 z
    have f₂ := h.fm.stepX h.eo h.io h.eb h.ib h.esq h.isq (t' := s.toks) kp (Nat.le_refl _)
    refine s_again C.prog C.w A LC fs P _ (.block [] F.env) rfl ?_
    subst hfs
    refine s_pop C.prog C.w A (.block [] F.env) [] P _ (.ok .next) _ rfl kk none false lv (.func fbody F.env) pp [] ?_
    exact done hz _ f₂ ⟨fun b o _ n2 z => kp b o (fun w => n2 (.inl w)) (fun w => n2 (.inr w)) z, fun b o n2 z => ⟨o, kp b o (fun w => n2 (.inl w)) (fun w => n2 (.inr w)) z⟩, rfl, fun _ _ _ z => z, id, Nat.le_refl _⟩
end Mine
namespace Mine
open PySem PySem.Calls PyProof.Rows PySem.W PySem.W.X
variable {C : Cx} {n : Nat} {nm : Names} {Γ : Gam}

theorem sx_For {prog : Program} {w : World} {A : Around} {c : Code} {fs : List Frame} {P : End → Shared → Prop} {s : Shared} {K : Flow → Sem Fin} {H : Value → Sem Fin} {gd : Bool → Bool} {lv : List Value → List Value}
    {t it : Expr} {body r : List Stmt} {p : Pos} {env : Env} (hgd : gd false = false) (hs : ∀ x, foldedSetIterable it env x = pure x)
    (h : wpAny (model prog w) (A.over c fs) (eval it env) (fun x s₁ => wpAny (model prog w) (A.over c fs) (pyIter x) (fun v s₂ => ∀ kk lv' p', (∀ A' s' P', SegX (model prog w) A' c ((execs r env).wrap K H gd lv) fs s' P' → SegX (model prog w) A' c (kk (.ok .next)) fs s' P') →
      SegX (model prog w) A (.forLoop t v body [] env) (denote table (.forLoop t v body [] env)) (.ret kk none false lv' c p' [] :: fs) s₂ P) Bot s₁) Bot s) :
    SegX (model prog w) A c ((execs (.For t it body [] p :: r) env).wrap K H gd lv) fs s P := by
  rw [execs_cons_wrap, exec_For]
  refine sx_bind (wpAny_standAt (sx_bind (bot_mono h fun x s₁ h₁ => ?_)))
  refine sx_bind (wpAny_of_eq (hs x) (sx_bind (wpAny_standAt (sx_bind (wpAny_holding (bot_mono h₁ fun v s₂ h₂ => ?_))))))
  show SegX _ A c (.call (.forLoop t v body [] env) none (gd false) (lv []) _) fs s₂ P
  rw [hgd]
  refine s_call prog w A c fs P s₂ _ none false _ _ fun p' => ?_
  exact h₂ _ _ p' fun A' s' P' hx => hx
theorem sx_pre {A : Around} {c : Code} {fs : List Frame} {P : End → Shared → Prop} {s : Shared} {K : Flow → Sem Fin} {H : Value → Sem Fin} {gd : Bool → Bool} {lv : List Value → List Value} {F : Fr1} {a b : List Stmt} {Γ' : Gam}
    (q : F.nm = nm) (ak : Aok n (A.over c fs)) (f : Fm C F Γ s) (h : Ex C n nm Γ noB a (fun o => o = .nxt Γ' noB))
    (k : ∀ s', Step F.mt s s' → Fm C F Γ' s' → SegX (model C.prog C.w) A c ((execs b F.env).wrap K H gd lv) fs s' P) : SegX (model C.prog C.w) A c ((execs (a ++ b) F.env).wrap K H gd lv) fs s P := by
  rw [execs_append]
  refine sx_bind (bot_mono (h.go F _ s q ak f trivial) fun fl s' ⟨y, o, ho, hf⟩ => ?_)
  subst ho
  cases fl with
  | next => exact k s' y hf.1
  | _ => exact hf.elim
theorem sx_func {A : Around} {body : List Stmt} {env : Env} {P : End → Shared → Prop} {s : Shared} {prog : Program} {w : World}
    (h : SegX (model prog w) A (.func body env) ((execs body env).wrap (fun f => .pure (.done (.ret (match f with | .ret v => v | _ => .none)))) (fun e => (leaving env e).wrap (fun _ => .raise e) .raise id id) id id) [] s P) :
    SegX (model prog w) A (.func body env) (denote table (.func body env)) [] s P := by
  show SegX _ A _ (.point [] fun _ => ((execs body env).onRaise (leaving env)) >>= _) [] s P
  refine sx_pt ?_
  rw [Sem.onRaise_eq_wrap, Sem.bind_eq_wrap', Sem.wrap_wrap]
  rw [Sem.wrap_congr (execs body env) _ _ (K' := fun f => .pure (.done (.ret (match f with | .ret v => v | _ => .none))))
    (H' := fun e => (leaving env e).wrap (fun _ => .raise e) .raise id id) (fun f => by cases f <;> rfl)
    (fun e => by rw [Sem.bind_eq_wrap, Sem.wrap_wrap]; rfl)]
  exact h
end Mine
namespace Mine
open PySem PySem.Calls PyProof.Rows PySem.W PySem.W.X
variable {C : Cx} {n : Nat} {nm : Names} {Γ : Gam}

noncomputable def genEnd (Q : Option Value → Shared → Prop) (g : Nat) (e : End) (s₁ : Shared) : Prop := match e with
  | .ret r => r = .ok (.ret .none) ∧ ∀ h', (∀ b o, s₁.heap.get? b = some o → h'.get? b = some o) → Q none { s₁.setGen g .finished with heap := h' }
  | .susp v gu l k c p fs => Q (some v) (s₁.setGen g (End.susp v gu l k c p fs).genState)
theorem next_gen {prog : Program} {w : World} {A : Around} {E : Value → Shared → Prop} {s : Shared} {a : Addr} {g : Nat} {gs : GenState} {Q : Option Value → Shared → Prop} {c₀ : Code} {t₀ : Sem Fin} {fs₀ : List Frame} (hh : A.handled = none) (hl : s.heap.NoLimit) (hroom : A.depth < recursionLimit)
    (hg : s.heap.IsGen a g) (hgs : s.gens[g]? = some gs) (hk : (gs = .fresh c₀ ∧ t₀ = denote table c₀ ∧ fs₀ = []) ∨ (∃ k₀ l₀ p₀ cl, gs = .suspended k₀ l₀ c₀ p₀ fs₀ cl ∧ t₀ = k₀ (.send .none)))
    (x : SegX (model prog w) A.in1 c₀ t₀ fs₀ (s.setGen g .running) (genEnd Q g)) : wpAny (model prog w) A (pyNext (.ref a)) Q E s := by
  unfold pyNext
  refine wpAny_bind (wpAny_attempt (wpAny_callSpecial?_slot (name := Str.ofString "__next__") hg.typeIs slot_gen_next
    (wpAny_call_entry slot_gen_next hg.typeIs entry_gen_next ?_ (args_gen_next _))))
  show wpAny _ _ (Builtin.Generator.genWake (.ref a) (.send .none)) _ _ s
  unfold Builtin.Generator.genWake
  refine wpAny_bind (wpAny_holding (wpAny_genNumber hg (wpAny_bind (wpAny_genState hgs ?_))))
  cases gs with
  | running => rcases hk with ⟨h, _⟩ | ⟨_, _, _, _, h, _⟩ <;> cases h
  | finished => rcases hk with ⟨h, _⟩ | ⟨_, _, _, _, h, _⟩ <;> cases h
  | _ =>
    refine wpAny_bind (wpAny_roomToWake hl hroom ?_)
    show wpAny _ _ (.resume g (.send .none) [] _) _ _ s
    refine wake_any _ prog w hgs (hk.imp (fun ⟨h1, h2, h3⟩ => ⟨h1, rfl, h2, h3⟩) id) (fun Γ => Γ.In A.in1) (fun _ h => h) (x.mono fun e s₁ he Γ p hΓ => ?_)
    cases e with
    | ret r =>
      obtain ⟨rfl, hp⟩ := he
      refine (?_ : wpAny (model prog w) A.in1 _ _ _ _) Γ p hΓ
      show wpAny _ _ (newExc (.type "StopIteration") [] >>= _) _ _ _
      refine wpAny_bind ?_
      simp only [newExc, newTuple]
      refine wpAny_bind (wpAny_newObj_type ?_ (by size_fits))
      refine wpAny_bind (m := firstArgMember _ _) (wpAny_of_eq (a := Value.none) (by first | rfl | (simp only [firstArgMember]; rfl)) ?_)
      refine wpAny_newObj_type ?_ (by size_fits)
      unfold raiseNew
      refine wpAny_bind (wpAny_bind (wpAny_handled ?_))
      rw [show A.in1.handled = none from hh]
      refine wpAny_throw ?_
      refine wpAny_bind (wpAny_isInstance (T := "StopIteration") (b := true) ⟨_, Heap.get?_push_size _ rfl, rfl⟩ isSubtype_stop ?_)
      exact wpAny_pure (hp _ fun b o hb => Heap.get?_push_of_some _ (Heap.get?_push_of_some _ hb))
    | susp v gu l k c p' fs =>
      refine (?_ : wpAny (model prog w) A.in1 _ _ _ _) Γ p hΓ
      exact wpAny_pure ⟨v, rfl, wpAny_pure he⟩
end Mine
namespace Mine
open PySem PySem.Calls PyProof.Rows PySem.W PySem.W.X
variable {C : Cx} {n : Nat} {nm : Names} {Γ : Gam}

noncomputable def itmL : Nat → List Nat → List D
  | _, [] => []
  | i, c :: cs => .tup [.int i, .str ⟨#[c]⟩] :: itmL (i + 1) cs
theorem drop_of {l : List Nat} {i c : Nat} (h : l[i]? = some c) : l.drop i = c :: l.drop (i + 1) := by
  obtain ⟨hi, e⟩ := List.getElem?_eq_some_iff.mp h
  rw [List.drop_eq_getElem_cons hi, e]
/-- what a turn of the generator's loop keeps fixed -/
structure GLoop (C : Cx) (nm : Names) (Γ : Gam) (F : Fr1) (fbody : List Stmt) (x : Str) (e : Addr) (LC : Code) (fs : List Frame) : Prop where
  hΓ : ∀ x d, Γ.lookup x = some d → Mine.atom d = true
  ex : ∃ ya yb kk lv pp py pe pt p3 p4 py2 ts es k1 k2 te tc, ∃ Γ₁ : Nat → Nat → Gam,
    LC = .forLoop (.Tuple ts k1 pt) (.ref e) [.If te ya [.If tc yb [.Expr (.Yield (some (.Tuple es k2 py2)) py) pe] p3] p4] [] F.env ∧ fs = [.ret kk none false lv (.func fbody F.env) pp []] ∧
    (∀ i c : Nat, Asns C nm ts [.int i, .str ⟨#[c]⟩] Γ (Γ₁ i c)) ∧ (∀ i c, Sub Γ (Γ₁ i c)) ∧ (∀ i c, Tst C 2 nm (Γ₁ i c) te false) ∧ (∀ i c : Nat, x.cps[i]? = some c → Tst C 2 nm (Γ₁ i c) tc false) ∧ (∀ i c : Nat, Evs C 2 nm (Γ₁ i c) es [.int i, .str ⟨#[c]⟩]) ∧
    (∀ A s P, Aok 3 A → Fm C F Γ s → (∀ s', Step F.mt s s' → P (.ret (.ok (.ret .none))) s') → SegX (model C.prog C.w) A (.func fbody F.env) (kk (.ok .next)) [] s P)
structure GW (C : Cx) (nm : Names) (s₀ : Shared) (a : Addr) (g : Nat) (F : Fr1) (own : Own) (s : Shared) : Prop where
  gen : s.heap.IsGen a g
  na : ¬ own a
  an : ¬ F.own a
  nm : F.nm = nm
  ho : ∀ b, F.own b → b = F.env.locals
  nol : ∀ b, F.own b → ¬ own b
  hz : ∀ b, F.own b → s₀.heap.get? b = none
  al : ∀ b o, s₀.heap.get? b = some o → ∃ o', s.heap.get? b = some o'
  ob : ∀ b, own b → C.h₀.get? b = none
structure GE (s₀ : Shared) (a e it : Addr) (own : Own) : Prop where
  ae : a ≠ e
  ai : a ≠ it
  oe : ¬ own e
  oi : ¬ own it
  ze : s₀.heap.get? e = none
  zi : s₀.heap.get? it = none
noncomputable def GSt (C : Cx) (nm : Names) (Γ₀ Γ : Gam) (fbody : List Stmt) (s₀ : Shared) (a : Addr) (g : Nat) (F : Fr1) (x : Str) (own : Own) (l : List D) (s : Shared) : Prop :=
  (s.gens[g]? = some (.fresh (.func fbody F.env)) ∧ Fm C F Γ₀ s ∧ l = itmL 0 x.cps.toList) ∨
  (∃ e it t i k lv' LC p fs, s.gens[g]? = some (.suspended k lv' LC p fs false) ∧ GLoop C nm Γ F fbody x e LC fs ∧ LpS C F Γ e it x t i s ∧ GE s₀ a e it own ∧ i ≤ x.cps.size ∧ l = itmL i (x.cps.toList.drop i) ∧
    ∀ A' s'' P', SegX (model C.prog C.w) A' LC (.pure (.again LC)) fs s'' P' → SegX (model C.prog C.w) A' LC (k (.send .none)) fs s'' P')
noncomputable def GWd (C : Cx) (nm : Names) (Γ₀ Γ : Gam) (fbody : List Stmt) (s₀ : Shared) (a : Addr) (g : Nat) (F : Fr1) (x : Str) (own : Own) (l : List D) (s : Shared) : Prop :=
  GW C nm s₀ a g F own s ∧ GSt C nm Γ₀ Γ fbody s₀ a g F x own l s
noncomputable abbrev Zs (s₀ : Shared) : Own := fun b => s₀.heap.get? b = none
noncomputable def gpost (C : Cx) (nm : Names) (Γ₀ Γ : Gam) (fbody : List Stmt) (s₀ : Shared) (a : Addr) (g : Nat) (F : Fr1) (x : Str) (own : Own) (s : Shared) : List D → Option Value → Shared → Prop
  | [], r, s' => r = none ∧ StepI own (Zs s₀) (· = g) s s'
  | d :: l, r, s' => ∃ v, r = some v ∧ StepI own (Zs s₀) (· = g) s s' ∧ Rep s'.heap own d v ∧ GWd C nm Γ₀ Γ fbody s₀ a g F x own l s'

theorem bare_set {gens : Array GenState} {g : Nat} {x : GenState} (h : AllBare gens) (hx : x.bare = true) : AllBare (gens.setIfInBounds g x) := fun y hy => by
  rcases Array.mem_or_eq_of_mem_setIfInBounds hy with h' | rfl
  · exact h y h'
  · exact hx
/-- from the start of next to its end -/
theorem stepI_of {F : Fr1} {own : Own} {e it : Addr} {s₀ s s₁ : Shared} {g : Nat} {y : GenState} (ho : ∀ b, F.mt b → F.own b) (nol : ∀ b, F.own b → ¬ own b) (hz : ∀ b, F.own b → s₀.heap.get? b = none) (oe : ¬ own e) (oi : ¬ own it) (ze : s₀.heap.get? e = none) (zi : s₀.heap.get? it = none)
    (sl : ∀ b o, F.own b → s.heap.get? b = some o → sq o = false) (se : ∀ o, s.heap.get? e = some o → sq o = false) (si : ∀ o, s.heap.get? it = some o → sq o = false) (hy : y.bare = true)
    (st : StepG F.mt (fun b => b = e ∨ b = it) (fun _ => False) (s.setGen g .running) s₁) : StepI own (Zs s₀) (· = g) s (s₁.setGen g y) where
  keep := fun b o n h => st.keep b o (fun q => n (hz b (ho b q))) (fun q => q.elim (fun q => n (q ▸ ze)) (fun q => n (q ▸ zi))) h
  seq := fun b o q h => st.keep b o (fun z => by rw [sl b o (ho b z) h] at q; cases q) (fun z => z.elim (fun z => by subst z; rw [se o h] at q; cases q) (fun z => by subst z; rw [si o h] at q; cases q)) h
  ow := fun b o n h => st.keep b o (fun q => nol b (ho b q) n) (fun q => q.elim (fun q => oe (q ▸ n)) (fun q => oi (q ▸ n))) h
  os := st.os
  gens := fun i z n h => by
    have h1 : (s.setGen g .running).gens[i]? = some z := by
      show (s.gens.setIfInBounds g _)[i]? = some z
      rw [Array.getElem?_setIfInBounds_ne (Ne.symm n)]; exact h
    have h2 := st.gens i z id h1
    show (s₁.gens.setIfInBounds g _)[i]? = some z
    rw [Array.getElem?_setIfInBounds_ne (Ne.symm n)]; exact h2
  bare := fun h => bare_set (st.bare (bare_set h rfl)) hy
  tk := st.tk

theorem Step.gx {F : Fr1} {e it : Addr} {s s' : Shared} (x : Step (Gm F e it) s s') : StepG F.mt (fun b => b = e ∨ b = it) (fun _ => False) s s' :=
  ⟨fun b o n m h => x.keep b o (fun q => q.elim n m) h, fun b o _ h => x.alive b o h, x.os, fun i z _ h => x.gens i z h, x.bare, x.tk⟩
theorem gstep {F : Fr1} {A : Around} {own : Own} {l : List D} {fbody : List Stmt} {s₀ s s₁ : Shared} {a e it : Addr} {g i : Nat} {x : Str} {t : Tok} {LC : Code} {fs : List Frame} {Γ₀ : Gam} (G : GW C nm s₀ a g F own s) (E : GE s₀ a e it own) (gl : GLoop C nm Γ F fbody x e LC fs) (ak : Aok 3 A) (w : Wd C own s)
    (l₁ : LpS C F Γ e it x t i s₁) (st : StepG F.mt (fun b => b = e ∨ b = it) (fun _ => False) (s.setGen g .running) s₁) (hgs : ∃ gs, s.gens[g]? = some gs) (sl : ∀ b o, F.own b → s.heap.get? b = some o → sq o = false) (se : ∀ o, s.heap.get? e = some o → sq o = false) (si : ∀ o, s.heap.get? it = some o → sq o = false)
    (hi : i ≤ x.cps.size) (hl : l = itmL i (x.cps.toList.drop i)) : SegX (model C.prog C.w) A LC (denote table LC) fs s₁ (genEnd (gpost C nm Γ₀ Γ fbody s₀ a g F x own s l) g) := by
  obtain ⟨ya, yb, kk, lv, pp, py, pe, pt, p3, p4, py2, ts, es, k1, k2, te, tc, Γ₁, hLC, hfs, ha, hs, h1, h2, hy, hkk⟩ := gl.ex
  have alive : ∀ b o, s.heap.get? b = some o → ∃ o', s₁.heap.get? b = some o' := fun b o h => by
    by_cases q : F.mt b
    · exact l₁.fm.wd.oal b (l₁.fm.mto b q)
    · by_cases q1 : b = e
      · subst q1; obtain ⟨_, z⟩ := l₁.en; exact ⟨_, z⟩
      · by_cases q2 : b = it
        · subst q2; obtain ⟨o', z, _⟩ := l₁.st; exact ⟨o', z⟩
        · exact ⟨o, st.keep b o q (fun z => z.elim q1 q2) h⟩
  have gr : ∀ {s'}, StepG F.mt (fun b => b = e ∨ b = it) (fun _ => False) (s.setGen g .running) s' → s'.gens[g]? = some .running := fun {s'} z => z.gens g _ id (by
    show (s.gens.setIfInBounds g _)[g]? = _
    obtain ⟨gs, hgs⟩ := hgs
    rw [Array.getElem?_setIfInBounds_self_of_lt (Array.getElem?_eq_some_iff.mp hgs).1])
  have mk := fun {s'} {y : GenState} (hy : y.bare = true) (z : StepG F.mt (fun b => b = e ∨ b = it) (fun _ => False) (s.setGen g .running) s') => stepI_of (y := y) l₁.fm.mto G.nol G.hz E.oe E.oi E.ze E.zi sl se si hy z
  refine gturn (A := A) (kk := kk) (lv := lv) (pp := pp) (py := py) (pe := pe) (pt := pt) (p3 := p3) (p4 := p4) (py2 := py2) (ya := ya) (yb := yb) (fbody := fbody) gl.hΓ G.nm ak l₁ hLC hfs ha hs h1 (h2 i) hy (fun c hc l' k p a' vs s' L' y' hna hp hr hk => ?_) (fun hz s' f' st' => ?_) hi
  · have hc' : x.cps.toList[i]? = some c := by rw [Array.getElem?_toList]; exact hc
    have st' := st.trans y'.gx
    rw [hl, drop_of hc']
    have I := mk (y := .suspended k l' LC p fs (false || fs.any Frame.guarded)) (by subst hfs; rfl) st'
    have hn : s.heap.get? a' = none := by
      cases z : s.heap.get? a' with
      | none => rfl
      | some o => obtain ⟨o', z'⟩ := alive _ _ z; rw [hna] at z'; cases z'
    have g0 : ∀ b o, ¬ F.own b → b ≠ e → b ≠ it → s.heap.get? b = some o → s'.heap.get? b = some o := fun b o n1 n2 n3 z => st'.keep b o (fun q => n1 (l₁.fm.mto b q)) (fun q => q.elim n2 n3) z
    refine ⟨.ref a', rfl, I, ⟨a', vs, rfl, w.off hn, hp, hr _ _⟩, ?_, .inr ⟨e, it, t, i + 1, k, l', LC, p, fs, ?_, gl, L'.far gl.hΓ (fun _ _ _ z => z) (fun _ _ _ z => z) (Nat.le_refl _), E, ?_, rfl, hk⟩⟩
    · refine { G with gen := ?_, al := fun b o z => ?_ }
      · obtain ⟨o, nm', qn, ho, r⟩ := G.gen
        exact ⟨o, nm', qn, g0 _ _ G.an E.ae E.ai ho, r⟩
      · obtain ⟨o', z'⟩ := G.al b o z
        exact ⟨o', I.keep b o' (fun q => by rw [show s₀.heap.get? b = none from q] at z; cases z) z'⟩
    · have z := gr st'
      show (s'.gens.setIfInBounds g _)[g]? = _
      rw [Array.getElem?_setIfInBounds_self_of_lt (Array.getElem?_eq_some_iff.mp z).1]
      subst hfs; rfl
    · exact (Array.getElem?_eq_some_iff.mp hc).1
  · have st₂ := st.trans st'
    have hd : x.cps.toList.drop i = [] := by rw [hz, ← Array.length_toList]; exact List.drop_length
    rw [hl, hd]
    refine hkk A s' _ ak f' fun s₃ y₃ => ⟨rfl, fun h' hh => ?_⟩
    have I := mk (y := .finished) rfl (st₂.trans (y₃.g fun _ z => z))
    exact ⟨rfl, ⟨fun b o n z => hh b o (I.keep b o n z), fun b o n z => hh b o (I.seq b o n z), fun b o n z => hh b o (I.ow b o n z), I.os, I.gens, I.bare, I.tk⟩⟩
end Mine
namespace Mine
open PySem PySem.Calls PyProof.Rows PySem.W PySem.W.X
variable {C : Cx} {n : Nat} {nm : Names} {Γ : Gam}

structure GStart (C : Cx) (nm : Names) (Γ₀ Γ : Gam) (F : Fr1) (fbody : List Stmt) (x : Str) : Prop where
  h₀ : ∀ x d, Γ₀.lookup x = some d → Mine.atom d = true
  go : ∀ A s P, Aok 4 A → Fm C F Γ₀ s → (∀ e it t s₁ LC fs, LpS C F Γ e it x t 0 s₁ → Step F.mt s s₁ → s.heap.get? e = none → s.heap.get? it = none → GLoop C nm Γ F fbody x e LC fs → SegX (model C.prog C.w) A LC (denote table LC) fs s₁ P) →
    SegX (model C.prog C.w) A (.func fbody F.env) (denote table (.func fbody F.env)) [] s P
theorem GSt.fm {Γ₀ : Gam} {F : Fr1} {fbody : List Stmt} {s₀ s : Shared} {a : Addr} {g : Nat} {x : Str} {own : Own} {l : List D} (h : GSt C nm Γ₀ Γ fbody s₀ a g F x own l s) : ∃ Γ', Fm C F Γ' s := by
  rcases h with ⟨_, f, _⟩ | ⟨e, it, t, i, k, lv', LC, p, fs, _, _, L, _⟩
  · exact ⟨_, f⟩
  · exact ⟨_, L.fm⟩
theorem gnext (O : C.Ok) {F : Fr1} {fbody : List Stmt} {s₀ : Shared} {a : Addr} {g : Nat} {x : Str} {Γ₀ : Gam} (S : GStart C nm Γ₀ Γ F fbody x) {A : Around} {own : Own} {l : List D} {s : Shared} (ak : Aok 5 A) (w : Wd C own s) (h : GWd C nm Γ₀ Γ fbody s₀ a g F x own l s) :
    wpAny (model C.prog C.w) A (pyNext (.ref a)) (gpost C nm Γ₀ Γ fbody s₀ a g F x own s l) Bot s := by
  obtain ⟨G, h⟩ := h
  have hl : s.heap.NoLimit := O.lim.keeps w.base
  have ak' : Aok 4 A.in1 := ak.in1
  obtain ⟨Γ', f0⟩ := h.fm
  have sl : ∀ b o, F.own b → s.heap.get? b = some o → sq o = false := fun b o ho z => by
    obtain ⟨m, hn, _⟩ := f0.ns
    cases q : sq o with
    | false => rfl
    | true => exact absurd (G.ho b ho) (ns_sq hn q z)
  rcases h with ⟨hg, f, hl'⟩ | ⟨e, it, t, i, k, lv', LC, p, fs, hg, gl, L, E, hi, hl', hk⟩
  · refine next_gen ak.handled hl ak.room G.gen hg (.inl ⟨rfl, rfl, rfl⟩) ?_
    refine S.go A.in1 _ _ ak' (f.far S.h₀ (fun _ _ _ z => z) (fun _ _ _ z => z) (Nat.le_refl _)) fun e it t s₁ LC fs L y he hi gl => ?_
    have he' : s.heap.get? e = none := he
    have hi' : s.heap.get? it = none := hi
    have z0 : ∀ b, s.heap.get? b = none → s₀.heap.get? b = none := fun b q => by
      cases z : s₀.heap.get? b with
      | none => rfl
      | some o => obtain ⟨o', z'⟩ := G.al b o z; rw [q] at z'; cases z'
    obtain ⟨o, nm', qn, ho, _⟩ := id G.gen
    refine gstep (s := s) (it := it) G ⟨fun q => ?_, fun q => ?_, w.off he', w.off hi', z0 _ he', z0 _ hi'⟩ gl (ak'.le (by omega)) w L (y.g fun _ z => z) ⟨_, hg⟩ sl (fun o z => ?_) (fun o z => ?_) (Nat.zero_le _) (by simpa using hl')
    · rw [q, he'] at ho; cases ho
    · rw [q, hi'] at ho; cases ho
    · rw [he'] at z; cases z
    · rw [hi'] at z; cases z
  · refine next_gen ak.handled hl ak.room G.gen hg (.inr ⟨k, lv', p, false, rfl, rfl⟩) ?_
    refine hk _ _ _ ?_
    obtain ⟨ya, yb, kk, lv, pp, py, pe, pt, p3, p4, py2, ts, es, k1, k2, te, tc, Γ₁, hLC, _⟩ := id gl.ex
    refine s_again C.prog C.w A.in1 LC fs _ _ LC (by rw [hLC]; rfl) ?_
    exact gstep (s := s) (it := it) G E gl (ak'.le (by omega)) w (L.far gl.hΓ (fun _ _ _ z => z) (fun _ _ _ z => z) (Nat.le_refl _)) .refl ⟨_, hg⟩ sl L.esq L.isq hi hl'

theorem letgo_gen {A : Around} {s : Shared} {a : Addr} {g : Nat} {t : Expr} {v : Value} (h : s.heap.IsGen a g) : wpAny (model C.prog C.w) A (letOwnedTupleGo t (.ref a) v) (fun _ s' => s' = s) Bot s := by
  obtain ⟨o, nm', qn, ho, hc, hd, _⟩ := h
  exact letgo_ok ho hc (by decide)

theorem IsIt.gen (O : C.Ok) {F : Fr1} {fbody : List Stmt} {s₀ : Shared} {a : Addr} {g : Nat} {x : Str} {Γ₀ : Gam} (S : GStart C nm Γ₀ Γ F fbody x) : IsIt C (n + 5) a (Zs s₀) (· = g) (fun own l s => GWd C nm Γ₀ Γ fbody s₀ a g F x own l s) where
  ext := fun own own' l s ⟨G, h⟩ k => by
    obtain ⟨Γ', f0⟩ := h.fm
    have al : ∀ b, (∃ o, s.heap.get? b = some o) → ¬ own b → ¬ own' b := fun b ⟨o, z⟩ q q' => (k b q').elim q fun z' => by rw [z] at z'; cases z'
    have ob : ∀ b, own' b → C.h₀.get? b = none := fun b q => (k b q).elim (G.ob b) fun z' => base_none f0.wd z'
    refine ⟨{ G with na := al _ (let ⟨o, _, _, z, _⟩ := G.gen; ⟨o, z⟩) G.na, nol := fun b q => al b (f0.wd.oal b q) (G.nol b q), ob := ob }, h.imp id ?_⟩
    rintro ⟨e, it, t, i, k, lv', LC, p, fs, hg, gl, L, E, r⟩
    exact ⟨e, it, t, i, k, lv', LC, p, fs, hg, gl, L, { E with oe := al _ (let ⟨_, z⟩ := L.en; ⟨_, z⟩) E.oe, oi := al _ (let ⟨o, z, _⟩ := L.st; ⟨o, z⟩) E.oi }, r⟩
  st := fun own l s s' mt ⟨G, h⟩ y k => by
    refine ⟨{ G with gen := let ⟨o, nm', qn, z, r⟩ := G.gen; ⟨o, nm', qn, y.keep _ _ (fun q => G.na (k _ q)) z, r⟩, al := fun b o z => let ⟨o', z'⟩ := G.al b o z; y.alive b o' z' }, ?_⟩
    rcases h with ⟨hg, f, hl⟩ | ⟨e, it, t, i, kk, lv', LC, p, fs, hg, gl, L, E, r⟩
    · exact .inl ⟨y.gens _ _ hg, f.far S.h₀ (fun b o q z => y.keep b o (fun w => G.nol b q (k b w)) z) (fun b o q z => y.keep b o (fun w => by rw [G.ob b (k b w)] at q; cases q) z) y.tk, hl⟩
    · refine .inr ⟨e, it, t, i, kk, lv', LC, p, fs, y.gens _ _ hg, gl, L.far gl.hΓ (fun b o q z => y.keep b o (fun w => ?_) z) (fun b o q z => y.keep b o (fun w => by rw [G.ob b (k b w)] at q; cases q) z) y.tk, E, r⟩
      rcases q with q | rfl | rfl
      · exact G.nol b q (k b w)
      · exact E.oe (k _ w)
      · exact E.oi (k _ w)
  self := fun own l A s ⟨G, _⟩ => wpAny_pyIter_gen G.gen ⟨rfl, rfl⟩
  letgo := fun own l A s t v ⟨G, _⟩ => letgo_gen G.gen
  next := fun own d l A s _ ak w h => bot_mono (gnext O S (ak.le (by omega)) w h) fun r s' h' => h'
  done := fun own A s _ ak w h => bot_mono (gnext O S (ak.le (by omega)) w h) fun r s' h' => h'
end Mine
namespace Mine
open PySem PySem.Calls PyProof.Rows PySem.W
variable {C : Cx} {n : Nat} {nm : Names} {Γ : Gam}

theorem Cmp.nins {x y : Str} : Cmp C .NotIn (.str y) (.str x) (!Txt.contains x y) := by
  rintro A s own _ _ _ _ ⟨t, rfl⟩ ⟨u, rfl⟩
  exact SB.notContains ⟨.refl .., rfl⟩
noncomputable def cutZ (x : Str) (i j : Option Int) : Str := if ((Builtin.Str.strSliceIndices i j 1 x.length).length == x.length) = true then x else ⟨((Builtin.Str.strSliceIndices i j 1 x.length).filterMap (x.cps[·]?)).toArray⟩
theorem cutZ_made {x : Str} {i j : Option Int} : ∀ t l u, l.map (·.1) = i → u.map (·.1) = j → sliceMade x t l u none = .val (.str (cutZ x i j) t) ∨ sliceMade x t l u none = .str (cutZ x i j) := by
  rintro t l u rfl rfl
  unfold sliceMade cutZ slicePicked
  simp only [Option.map_none, Option.getD_none, beq_self_eq_true, Bool.true_and]
  split
  · exact .inl rfl
  · exact .inr rfl
theorem reps_strs {h : Heap} {own : Own} : ∀ {l : List Str} {vs : List Value}, Reps h own (l.map D.str) vs → ∃ ps : List (Str × Tok), vs = strValues ps ∧ ps.map (·.1) = l
  | [], vs, r => by cases r; exact ⟨[], rfl, rfl⟩
  | x :: l, _, ⟨v, r, e0, ⟨t, e1⟩, z⟩ => by
    subst e0; subst e1
    obtain ⟨ps, rfl, e⟩ := reps_strs z
    exact ⟨(x, t) :: ps, rfl, by simp [e]⟩
theorem Cal.joins {sep z : Str} {A : Around} {s : Shared} {ts : List Str} {a : Addr} {vs : List Value} {own : Own} {t : Tok} (hl : PLst s.heap a vs) (hr : Reps s.heap own (ts.map D.str) vs) (hok : JoinOk sep ts = true) (hz : Txt.join sep ts = z) :
    wpAny (model C.prog C.w) A (call (.builtin "str.join") [.str sep t, .ref a]) (fun v s' => Step No s s' ∧ ∃ t, v = .str z t) Bot s := by
  obtain ⟨ps, rfl, e⟩ := reps_strs hr
  exact wpAny_with_toks (Nat.le_refl _) (SC.join hl.is e hok fun t' k' hk' => ⟨.toks (t := k') hk', t', by rw [hz]⟩)
theorem Mt.joins {x : Str} : Mt C (.str x) "join" "str.join" := fun A s own v pl Q w hr hq => by
  obtain ⟨t, rfl⟩ := hr
  with_reducible exact GM.of (.str x t) (typeIs_str _ _ _) F.slot_str_join F.type_str_join GM.noRef hq
/-- return sep.join(x) -/
theorem Ex.retjoin {o e : Expr} {sep z : Str} {p p' ap : Pos} {r : List Stmt} {ts : List Str} {a : Addr} {P : Out → Prop} (ho : Ev C n nm Γ o (.str sep)) (hx : Ev C n nm Γ e (.raw (.ref a))) (hok : JoinOk sep ts = true) (hz : Txt.join sep ts = z)
    (k : P (.ret (.str z)))
    (he : ∀ env, ∃ pl, eval (.Call (.Attribute o ("join" : Str) ap) [e] [] p) env = (do
      let ov ← eval o env
      standAt ap.atName
      let (f, first) ← holding [ov] (getMethod ov ("join" : Str) pl)
      callWith p f first (backTo p (starEach [e] env)) [])) (hs : ∀ env, starEach [e] env = (false, eval e env) :: starEach [] env) (hp : ∀ env, (backTo p (starEach [] env)).any (·.1) = false) :
    Ex C n nm Γ (Bx a (ts.map D.str)) (.Return (some (.Call (.Attribute o ("join" : Str) ap) [e] [] p)) p' :: r) P := ⟨fun F A s q ak f i => by
  obtain ⟨pl, he⟩ := he F.env
  have ev : Evs C n nm Γ [e] [.raw (.ref a)] := Evs.cons hx Evs.nil hs
  refine wpAny_execs_cons (wpAny_Return_some ?_)
  refine MethodCall_ (pl := pl) (bot_mono (ho.go F A s q ak f) fun v s₁ ⟨y, z⟩ => Mt.joins A s₁ F.own v pl _ (f.wd.stepN y) z ?_) he
  refine callWith_method1 (bot_mono (ev.go F A s₁ p q ak (f.step y)) fun ws s₂ ⟨y₂, hr⟩ => ?_) (hs _) (hp _)
  obtain ⟨t, rfl⟩ := z
  obtain ⟨_, _, rfl, rfl, hn⟩ := hr
  cases hn
  have yy := y.trans y₂
  obtain ⟨h1, h2, h3, h4, vs, hl, hr⟩ := (Bx a (ts.map D.str)).st F _ _ (fun b o _ _ e => yy.all b o e) (own_places f) i
  refine bot_mono (Cal.joins hl hr hok hz) fun v s' ⟨y₃, h⟩ => ?_
  exact ⟨(yy.trans y₃).non, _, k, h⟩⟩
end Mine
namespace Mine
open PySem PySem.Calls PyProof.Rows PySem.W
variable {C : Cx} {n : Nat} {nm : Names} {Γ : Gam}

/-- plain rows of ints, one at each address -/
noncomputable def RowsAt (h : Heap) : List (List Int) → List Addr → Prop
  | [], [] => True
  | r :: rs, b :: bs => (∃ ws, PLst h b ws ∧ Reps h No (Ints r) ws) ∧ RowsAt h rs bs
  | _, _ => False
theorem ints_atoms {h h' : Heap} {own own' : Own} : ∀ {l : List Int} {vs : List Value}, Reps h own (Ints l) vs → Reps h' own' (Ints l) vs
  | [], _, x => x
  | i :: l, _, ⟨v, r, e, x, y⟩ => ⟨v, r, e, x, ints_atoms y⟩
theorem RowsAt.mono {h h' : Heap} : ∀ {rs : List (List Int)} {bs : List Addr}, RowsAt h rs bs → (∀ b ∈ bs, ∀ o, h.get? b = some o → sq o = true → h'.get? b = some o) → RowsAt h' rs bs
  | [], [], _, _ => trivial
  | r :: rs, b :: bs, ⟨⟨ws, ⟨m, hp⟩, hr⟩, z⟩, k => ⟨⟨ws, ⟨m, k b (.head _) _ hp rfl⟩, ints_atoms hr⟩, z.mono fun c hc => k c (.tail _ hc)⟩
  | [], _ :: _, x, _ => x.elim
  | _ :: _, [], x, _ => x.elim
theorem RowsAt.live {h : Heap} : ∀ {rs : List (List Int)} {bs : List Addr}, RowsAt h rs bs → ∀ b ∈ bs, ∃ o, h.get? b = some o
  | r :: rs, b :: bs, ⟨⟨ws, ⟨m, hp⟩, hr⟩, z⟩, c, hc => by
    rcases List.mem_cons.mp hc with rfl | hc
    · exact ⟨_, hp⟩
    · exact z.live c hc
  | [], [], _, _, hc => by cases hc
theorem RowsAt.snoc {h : Heap} {r : List Int} {b : Addr} (hb : ∃ ws, PLst h b ws ∧ Reps h No (Ints r) ws) : ∀ {rs : List (List Int)} {bs : List Addr}, RowsAt h rs bs → RowsAt h (rs ++ [r]) (bs ++ [b])
  | [], [], _ => ⟨hb, trivial⟩
  | _ :: _, _ :: _, ⟨x, z⟩ => ⟨x, z.snoc hb⟩
  | [], _ :: _, x => x.elim
  | _ :: _, [], x => x.elim
theorem RowsAt.len {h : Heap} : ∀ {rs : List (List Int)} {bs : List Addr}, RowsAt h rs bs → bs.length = rs.length
  | [], [], _ => rfl
  | _ :: _, _ :: _, ⟨x, z⟩ => congrArg (· + 1) z.len
  | [], _ :: _, x => x.elim
  | _ :: _, [], x => x.elim
structure Rws (h₀ : Heap) (h : Heap) (own : Own) (rows : List (List Int)) (vs : List Value) (bs : List Addr) : Prop where
  eq : vs = bs.map Value.ref
  nd : bs.Nodup
  new : ∀ b ∈ bs, h₀.get? b = none ∧ ¬ own b
  at_ : RowsAt h rows bs

/-- [x] * k makes a list anew -/
theorem EvN.mull {e i : Expr} {p p' : Pos} {d : D} {x : Int} (h0 : 0 ≤ x) (h1 : x ≤ 1000) (he : Ev C (n + 1) nm Γ e (.lst [d])) (hi : Ev C (n + 1) nm Γ i (.int x)) : EvN C (n + 1) nm Γ (.BinOp e .Mult i p) (List.replicate x.toNat d) := ⟨fun F A s q a f => by
  refine wpAny_BinOp (bot_mono (he.go F A s q a f) fun v s₁ ⟨y₁, z₁⟩ => bot_mono (hi.go F A s₁ q a (f.step y₁)) fun v₂ s₂ ⟨y₂, z₂⟩ => ?_)
  replace z₁ := z₁.stepN y₂
  obtain ⟨l, vs, rfl, no, ⟨k, hl⟩, hr⟩ := z₁
  obtain ⟨u, rfl⟩ := z₂
  obtain ⟨v, r, rfl, hv, hn⟩ := hr
  cases hn
  have e : List.foldl (fun x1 x2 => x1 ++ x2) #[] (List.replicate (if [v].toArray.isEmpty = true then 0 else x.toNat) [v].toArray) = (List.replicate x.toNat v).toArray := by
    have : (if [v].toArray.isEmpty = true then 0 else x.toNat) = x.toNat := by simp
    rw [this]
    have := foldl_rep v x.toNat #[]
    simpa using this
  have y : Step No s₂ { s₂ with heap := s₂.heap.push { cls := .type "list", data := .seq (List.replicate x.toNat v).toArray } } := .push (t := s₂.toks)
  have hm : #[v].size * x.toNat ≤ 1000 := by
    have e1 : #[v].size = 1 := rfl
    rw [e1]; omega
  have hlong : Builtin.List.listTooLong ([v].toArray.size * x.toNat) = false := by
    have h2 : x.toNat ≤ 1000 := by omega
    have e1 : [v].toArray.size = 1 := rfl
    simp only [Builtin.List.listTooLong, sizeLine, e1, Nat.one_mul]
    simp; omega
  refine wpAny_binaryOp_repeat_ref (T := "list") (U := "int") (by decide) ⟨_, hl, rfl⟩ (fun s' => typeIs_int s' x u) noFill_list_mul PySem.F.fills_int_mul PySem.F.slot_int_rmul repeat_list PySem.F.slot_int_index.lookup
    (call_meets PySem.F.slot_int_rmul (typeIs_int s₂ x u) PySem.F.entry_int_rmul (PySem.F.args_int_rmul_2 _ _) (int___rmul___int_list x u l [v].toArray k)
      ⟨hl, rfl, ⟨_, hl, rfl⟩, call_meets PySem.F.slot_list_mul ⟨_, hl, rfl⟩ PySem.F.entry_list_mul (PySem.F.args_list_mul_2 _ _)
        (AutoListH.list___mul___list_int_3 l [v].toArray k x u (by simp [Builtin.List.listFitsIndex]; omega) (by omega) (by rw [hlong]; decide))
        ⟨hl, ?_⟩⟩)
  rw [e]
  exact ⟨(y₁.trans y₂).trans y, _, _, s₂.heap, rfl, (y₁.trans y₂).off_new fresh_none, ⟨0, Heap.get?_push_size _ rfl⟩, fresh_none, reps_replicate hv _, fun b o e => Heap.get?_push_of_some _ e⟩⟩

theorem emit_row {elt : Expr} {row : List Int} (h : EvN C n nm Γ elt (Ints row)) {F : Fr1} {A : Around} {s : Shared} {acc : Addr} {pre : List (List Int)} {vs : List Value} {bs : List Addr} {h₀ : Heap} (q : F.nm = nm) (a : Aok n A) (f : Fm C F Γ s) (ho : F.own acc) (hm : F.mt acc) (hl : PLst s.heap acc vs)
    (hp : Rws h₀ s.heap F.own pre vs bs) (al : ∀ b o, h₀.get? b = some o → ∃ o', s.heap.get? b = some o') (hz : pre.length ≤ sizeLine) :
    wpAny (model C.prog C.w) A (emit elt F.env (.ref acc)) (fun _ s' => Step F.mt s s' ∧ Fm C F Γ s' ∧ ∃ vs' bs', PLst s'.heap acc vs' ∧ Rws h₀ s'.heap F.own (pre ++ [row]) vs' bs') Bot s := by
  refine wpAny_bind (bot_mono (h.go F A s q a f) fun v s₁ ⟨y, b, ws, h₁, e1, e2, e3, e4, e5, e6⟩ => wpAny_bind ?_)
  subst e1
  have hl₁ : PLst s₁.heap acc vs := hl.at fun o e => y.all _ o e
  refine append_ok hl₁ (by rw [hp.eq, List.length_map, hp.at_.len]; exact hz) fun h' hl' hs => wpAny_pure ?_
  have kp : ∀ b o, b ≠ acc → s₁.heap.get? b = some o → h'.get? b = some o := fun b o n e => (hs.2 b n).trans e
  have y₂ : Step F.mt s₁ { s₁ with heap := h' } := .heap (fun b o n e => kp b o (fun q => n (q ▸ hm)) e) fun b o e => by
    by_cases q : b = acc
    · subst q; obtain ⟨_, z⟩ := hl'; exact ⟨_, z⟩
    · exact ⟨o, kp b o q e⟩
  have nb : ¬ F.own b := f.wd.off e2
  refine ⟨y.non.trans y₂, (f.step y).samebut hl₁ ho hs ⟨_, hl'⟩, _, bs ++ [b], hl', ?_, ?_, ?_, ?_⟩
  · rw [hp.eq, List.map_append]; rfl
  · refine List.nodup_append.mpr ⟨hp.nd, by simp, fun c hc c' hc' => ?_⟩
    rcases List.mem_singleton.mp hc' with rfl
    rintro rfl
    obtain ⟨o, z⟩ := hp.at_.live _ hc
    rw [e2] at z; cases z
  · intro c hc
    rcases List.mem_append.mp hc with hc | hc
    · exact hp.new c hc
    · rcases List.mem_singleton.mp hc with rfl
      refine ⟨?_, nb⟩
      cases z : h₀.get? c with
      | none => rfl
      | some o => obtain ⟨o', z'⟩ := al _ _ z; rw [e2] at z'; cases z'
  · refine RowsAt.snoc ?_ (hp.at_.mono fun c hc o z _ => kp c o (fun w => (hp.new c hc).2 (w ▸ ho)) (y.all c o z))
    refine ⟨ws, e3.at fun o z => kp b o (fun w => nb (w ▸ ho)) z, ints_atoms e5⟩
end Mine
namespace Mine
open PySem PySem.Calls PyProof.Rows PySem.W
variable {C : Cx} {n : Nat} {nm : Names} {Γ : Gam}

noncomputable def RowIt (C : Cx) (n : Nat) (nm : Names) (t elt : Expr) (row : List Int) (Γ : Gam) (d : D) : Prop := ∃ Γ₁, Asn C nm t d Γ Γ₁ ∧ Sub Γ Γ₁ ∧ EvN C n nm Γ₁ elt (Ints row)
theorem row_loop {F : Fr1} {A : Around} {a acc : Addr} {Z : Own} {gs : Nat → Prop} {W : Own → List D → Shared → Prop} {elt t iter : Expr} {gens : List Comprehension} {sc : Scope} {cp : Pos} {depth : Nat} {row : List Int} {h₀ : Heap} (it : IsIt C (n + 1) a Z gs W) (q : F.nm = nm) (ak : Aok (n + 1) A)
    (hb : ∀ b, Z b → C.h₀.get? b = none) (hZ : ∀ b, Z b → h₀.get? b = none) (ho : F.own acc) (hac : F.mt acc)
    (hturn : ∀ it acc env, compTurn (.ListComp elt gens sc cp) depth it acc env = turnForm t iter [] (emit elt) (.compLoop (.ListComp elt gens sc cp) depth it acc env) it acc env) :
    ∀ (l : List D) (pre : List (List Int)) (vs : List Value) (bs : List Addr) (s : Shared), (∀ d ∈ l, RowIt C (n + 1) nm t elt row Γ d) → Fm C F Γ s → W F.own l s → PLst s.heap acc vs → Rws h₀ s.heap F.own pre vs bs → (∀ b o, h₀.get? b = some o → ∃ o', s.heap.get? b = some o') → pre.length + l.length ≤ sizeLine →
      codeAny (model C.prog C.w) A (.compLoop (.ListComp elt gens sc cp) depth (.ref a) (.ref acc) F.env) (fun r s' => StepG F.mt Z gs s s' ∧ r = .ok .next ∧ Fm C F Γ s' ∧ ∃ vs' bs', PLst s'.heap acc vs' ∧ Rws h₀ s'.heap F.own (pre ++ List.replicate l.length row) vs' bs') s := by
  intro l pre vs bs s hi f hw hl hp al hz
  refine codeAny_loop rfl (fun k s' => ∃ l' o vs' bs', l'.length = k ∧ (∀ d ∈ l', RowIt C (n + 1) nm t elt row Γ d) ∧ o ++ List.replicate l'.length row = pre ++ List.replicate l.length row ∧ Fm C F Γ s' ∧ W F.own l' s' ∧ PLst s'.heap acc vs' ∧ Rws h₀ s'.heap F.own o vs' bs' ∧ (∀ b o, h₀.get? b = some o → ∃ o', s'.heap.get? b = some o') ∧ StepG F.mt Z gs s s' ∧ o.length + l'.length ≤ sizeLine) ?_ l.length
    ⟨l, pre, vs, bs, rfl, hi, rfl, f, hw, hl, hp, al, .refl, hz⟩
  clear hw hl hp f al hz
  rintro k s₁ ⟨l', o, vs', bs', rfl, hi2, hor, f, hw, hl, hp, al, st, hz⟩
  clear hi
  show wpAny _ A ((compTurn (.ListComp elt gens sc cp) depth (.ref a) (.ref acc) F.env).onRaise (fun x => do noteFrame x F.env; theTreesLotGoes x)) _ _ s₁
  refine wpAny_noted ?_
  rw [hturn]
  refine wpAny_bind (wpAny_standAt (wpAny_bind ?_))
  have sq1 : ∀ {s₂}, StepI F.own Z gs s₁ s₂ → Rws h₀ s₂.heap F.own o vs' bs' := fun y => { hp with at_ := hp.at_.mono fun b _ o z w => y.seq b o w z }
  cases l' with
  | nil =>
    refine bot_mono (it.done F.own A s₁ (ak.le (by omega)) ak f.wd hw) fun r s₂ ⟨e, y⟩ => ?_
    subst e
    refine wpAny_pure ⟨st.trans (y.g), rfl, f.stepI y hb, vs', bs', ?_, ?_⟩
    · obtain ⟨m, z⟩ := hl; exact ⟨m, y.seq _ _ rfl z⟩
    · have e : o = pre ++ List.replicate l.length row := by simpa using hor
      rw [← e]; exact sq1 y
  | cons d l' =>
    refine bot_mono (it.next F.own d l' A s₁ (ak.le (by omega)) ak f.wd hw) fun r s₂ ⟨v, e, y, hv, hw₂⟩ => ?_
    subst e
    obtain ⟨Γ₁, ha, hs, htl⟩ := hi2 d (.head _)
    refine wpAny_bind (bot_mono (it.letgo F.own l' A s₂ t v hw₂) fun _ s₃ e => ?_)
    subst e
    have f₂ := f.stepI y hb
    have hl₂ : PLst s₃.heap acc vs' := by obtain ⟨m, z⟩ := hl; exact ⟨m, y.seq _ _ rfl z⟩
    have hp₂ := sq1 y
    have al₂ : ∀ b o, h₀.get? b = some o → ∃ o', s₃.heap.get? b = some o' := fun b o z => by
      obtain ⟨o', z'⟩ := al b o z
      exact ⟨o', y.keep b o' (fun w => by rw [hZ b w] at z; cases z) z'⟩
    refine wpAny_bind (bot_mono (ha.go F A s₃ v ⟨fun F h => F.own acc ∧ (∃ m, h.get? acc = some { cls := .type "list", data := .seq vs'.toArray m } ∧ ¬ (acc = F.env.locals ∨ F.cellAt acc)), fun F h h' k o ⟨z0, m, z1, z2⟩ => ⟨z0, m, k _ _ z2 rfl z1, z2⟩, fun F h h' a n k ⟨z0, m, z1, z2⟩ => ⟨.inl z0, m, k _ _ z1, z2⟩⟩ q (ak.le (by omega)) f₂ hv ⟨ho, ?_⟩) fun _ s₄ ⟨y₄, f₄, _, m₄, hl₄, _⟩ => ?_)
    · obtain ⟨m, z⟩ := hl₂
      refine ⟨m, z, ?_⟩
      rintro (rfl | ⟨x, hx, hc⟩)
      · obtain ⟨_, ⟨o', es, ep, g1, g2, _⟩, _⟩ := f₂.ns
        rw [z] at g1; cases g1; cases g2
      · obtain ⟨c, o', vv, k1, _, _, k4, _, _, _, k8, _⟩ := f₂.cel x hx
        rw [k1] at hc; cases hc
        rw [z] at k4; cases k4; cases k8
    have st₄ : StepG F.mt Z gs s s₄ := (st.trans (y.g)).trans (y₄.g fun _ e => e)
    have hw₄ := it.st F.own l' _ _ F.mt hw₂ y₄ f.mto
    have hp₄ : Rws h₀ s₄.heap F.own o vs' bs' := { hp with at_ := hp₂.at_.mono fun b hb o z w => y₄.keep b o (fun q => (hp.new b hb).2 (f.mto _ q)) z }
    have al₄ : ∀ b o, h₀.get? b = some o → ∃ o', s₄.heap.get? b = some o' := fun b o z => let ⟨o', z'⟩ := al₂ b o z; y₄.alive b o' z'
    refine wpAny_bind (wpAny_tests_nil ?_)
    refine wpAny_bind (bot_mono (emit_row htl q ak f₄ ho hac ⟨m₄, hl₄⟩ hp₄ al₄ (by simp at hz; omega)) fun _ s₆ ⟨y₆, f₆, vs₆, bs₆, hl₆, hp₆⟩ => ?_)
    refine wpAny_pure ⟨rfl, l'.length, Nat.lt_succ_self _, l', o ++ [row], vs₆, bs₆, rfl, fun d hd => hi2 d (.tail _ hd), ?_, f₆.sub hs, it.st F.own l' _ _ F.mt hw₄ y₆ f.mto, hl₆, hp₆, fun b o z => let ⟨o', z'⟩ := al₄ b o z; y₆.alive b o' z', st₄.trans (y₆.g fun _ e => e), ?_⟩
    · rw [← hor]; simp [List.replicate_succ]
    · simp at hz ⊢; omega

theorem row_core {use : Option (Value → Sem Unit)} {Q : Value → Shared → Prop} {elt t iter : Expr} {sc : Scope} {cp : Pos} {items : List D} {row : List Int} {Γ' : Gam}
    (hi : ItE C (n + 1) nm Γ iter items) (ok : compOk nm sc = true) (hΓ : Cap sc Γ Γ') (his : ∀ d ∈ items, RowIt C (n + 1) sc.names t elt row Γ' d) (hz : items.length ≤ sizeLine)
    (hturn : ∀ it acc env, compTurn (.ListComp elt [⟨t, iter, [], 0⟩] sc cp) 0 it acc env = turnForm t iter [] (emit elt) (.compLoop (.ListComp elt [⟨t, iter, [], 0⟩] sc cp) 0 it acc env) it acc env)
    {F : Fr1} {A : Around} {s : Shared} (q : F.nm = nm) (a : Aok (n + 1) A) (f : Fm C F Γ s)
    (K : ∀ s' acc L vs bs m, Step No s s' → PLst s'.heap acc vs → s.heap.get? acc = none → Rws s.heap s'.heap F.own (List.replicate items.length row) vs bs → s'.heap.Ns L m → s.heap.get? L = none → acc ≠ L → acc ∉ bs → compPost (model C.prog C.w) A Bot use Q (.ref acc) L (.ok .next) s') :
    wpAny (model C.prog C.w) A (eval iter F.env) (fun x s₁ => wpAny (model C.prog C.w) A (pyIter x) (fun it s₂ => wpAny (model C.prog C.w) A (newList []) (fun acc s₃ =>
      wpAny (model C.prog C.w) A (newFunctionEnv sc F.env.globals (cloOf F.env sc.names []) [] F.env.qual none .none (some F.env)) (fun cenv s₄ =>
        codeAny (model C.prog C.w) A (.compStart (.ListComp elt [⟨t, iter, [], 0⟩] sc cp) 0 it acc { cenv with scope := relabel sc F.env }) (compPost (model C.prog C.w) A Bot use Q acc cenv.locals) s₄) Bot s₃) Bot s₂) Bot s₁) Bot s := by
  unfold compOk at ok
  simp only [Bool.and_eq_true, Bool.not_eq_true', beq_iff_eq] at ok
  obtain ⟨⟨⟨k1, k2⟩, k3⟩, k4⟩ := ok
  have kfree : ∀ x, sc.names.lookup x = some .free → isCel (F.nm.lookup x) := fun x e => by
    have := List.all_eq_true.mp k4 _ (mem_of_lk e)
    simp only [bne_self_eq_false, Bool.false_or, Bool.or_eq_true, beq_iff_eq] at this
    rw [q]; exact this
  have hclo : ∀ x, (x, NameKind.free) ∈ sc.names → ∃ c, F.env.cells.lookup x = some c := fun x e => by
    obtain ⟨c, _, _, h1, _⟩ := f.cel x (kfree x (nmOk_mem k3 e))
    exact ⟨c, h1⟩
  refine bot_mono (hi.go F A s q a f) fun x s₁ hx => bot_mono hx fun it s₂ ⟨b, Z, gs, W, g⟩ => ?_
  rw [g.eq]
  refine newList_ok ?_
  generalize hacc : s₂.heap.objs.size = acc
  have hacc₂ : s₂.heap.get? acc = none := hacc ▸ fresh_none
  have hacc₀ : s.heap.get? acc = none := by
    cases e : s.heap.get? acc with
    | none => rfl
    | some o => have := g.step.all _ _ e; rw [hacc₂] at this; cases this
  generalize hs₃ : ({ s₂ with heap := s₂.heap.push { cls := .type "list", data := .seq ([] : List Value).toArray } } : Shared) = s₃
  have y₃ : Step No s₂ s₃ := by rw [← hs₃]; exact .push (t := s₂.toks)
  have hl₃ : PLst s₃.heap acc [] := by rw [← hs₃, ← hacc]; exact ⟨0, Heap.get?_push_size _ rfl⟩
  have f₃ : Fm C (F.add acc) Γ s₃ := f.add hacc₀ (g.step.trans y₃) (let ⟨_, e⟩ := hl₃; ⟨_, e⟩)
  refine newEnv_ok fun L pre h' m => ?_
  unfold storeAll
  rw [List.forIn_nil]
  refine wpAny_pure ?_
  have hnew : ∀ b, (b = L ∨ preA pre b) → s.heap.get? b = none := fun b e => by
    cases z : s.heap.get? b with
    | none => rfl
    | some o => have := (g.step.trans y₃).all _ _ z; rw [m.fresh e] at this; cases this
  have hnew₂ : ∀ b, (b = L ∨ preA pre b) → s₂.heap.get? b = none := fun b e => by
    cases z : s₂.heap.get? b with
    | none => rfl
    | some o => have := y₃.all _ _ z; rw [m.fresh e] at this; cases this
  have f₄ := m.comp (env := { newEnv sc L F.env.globals (pre ++ cloOf F.env sc.names []) F.env.qual none .none (some F.env) builtinsNs with scope := relabel sc F.env }) (mt := fun b => b = acc) (Γ' := Γ') f₃ k3 k1 k2 (relabel_lk sc F.env) f.glob f.blt rfl rfl
    (fun x e => ⟨kfree x e, cloOf_lk F.env sc.names [] x (fun c h => by cases h) (.inl (mem_of_lk e)) hclo⟩) (fun b e => .inr e) hΓ
  have y₄ : Step No s₃ { s₃ with heap := h' } := .ext m.keep
  have hb : ∀ c, Z c → C.h₀.get? c = none := fun c hc => base_none f.wd (g.new c hc)
  have w₄ := g.isit.st _ _ _ _ No (g.isit.st _ _ _ _ No (g.isit.ext F.own (fun b => (F.add acc).own b ∨ (b = L ∨ preA pre b)) items s₂ g.w fun c e => by
    rcases e with (e | e) | e
    · exact .inl e
    · exact .inr (e ▸ hacc₂)
    · exact .inr (hnew₂ c e)) y₃ (fun _ => False.elim)) y₄ (fun _ => False.elim)
  refine comp_start (a := b) (t := t) (iter := iter) (ifs := []) rfl (g.isit.self _ _ A _ w₄) ?_
  refine codeAny_mono (row_loop (h₀ := s.heap) (F := { env := { newEnv sc L F.env.globals (pre ++ cloOf F.env sc.names []) F.env.qual none .none (some F.env) builtinsNs with scope := relabel sc F.env }, nm := sc.names, own := fun b => (F.add acc).own b ∨ (b = L ∨ preA pre b), mt := fun b => b = acc ∨ (b = L ∨ preA pre b), ret := (F.add acc).own })
    g.isit rfl a hb g.new (.inl (.inr rfl)) (.inl rfl) hturn items [] [] [] { s₃ with heap := h' } his f₄ w₄ (hl₃.at fun o e => m.keep _ o e) ⟨rfl, List.nodup_nil, (fun _ h => by cases h), trivial⟩ (fun b o z => ⟨o, (g.step.trans (y₃.trans y₄)).all b o z⟩) (by simpa using hz)) fun r s₅ ⟨st, e, f₅, vs', bs', hl₅, hr₅⟩ => ?_
  subst e
  have y₅ : Step No s s₅ := st.drop ((g.step.trans y₃).trans y₄) (fun c o _ e q => by
    rcases q with q | q
    · rw [q, hacc₀] at e; cases e
    · rw [hnew c q] at e; cases e) g.new g.gens
  obtain ⟨mm, hn, _⟩ := f₅.ns
  exact K s₅ acc L vs' bs' mm y₅ hl₅ hacc₀ { hr₅ with new := fun c hc => ⟨(hr₅.new c hc).1, fun w => (hr₅.new c hc).2 (.inl (.inl w))⟩, at_ := by simpa using hr₅.at_ } hn (hnew L (.inl rfl)) (fun e => by
    obtain ⟨o, es, ep, h1, h2, _⟩ := hn
    obtain ⟨k, h3⟩ := hl₅
    rw [e] at h3
    have h1' : s₅.heap.get? L = some o := h1
    rw [h3] at h1'; cases h1'; cases h2) fun w => (hr₅.new _ w).2 (.inl (.inr rfl))
end Mine
namespace Mine
open PySem PySem.Calls PyProof.Rows PySem.W
variable {C : Cx} {n : Nat} {nm : Names} {Γ : Gam}

theorem RowsAt.sq {h : Heap} : ∀ {rs : List (List Int)} {bs : List Addr}, RowsAt h rs bs → ∀ b ∈ bs, ∃ o, h.get? b = some o ∧ Mine.sq o = true
  | r :: rs, b :: bs, ⟨⟨ws, ⟨m, hp⟩, hr⟩, z⟩, c, hc => by
    rcases List.mem_cons.mp hc with rfl | hc
    · exact ⟨_, hp, rfl⟩
    · exact z.sq c hc
  | [], [], _, _, hc => by cases hc
/-- a table: a list of rows, all the frame's own -/
noncomputable def Tx (a : Addr) (rows : List (List Int)) : Box where
  I F h := ∃ bs : List Addr, PLst h a (bs.map Value.ref) ∧ bs.Nodup ∧ a ∉ bs ∧ RowsAt h rows bs ∧ ∀ c, c = a ∨ c ∈ bs → F.own c ∧ F.mt c ∧ ¬ F.ret c ∧ ¬ (c = F.env.locals ∨ F.cellAt c)
  st := by
    rintro F h h' k ho ⟨bs, ⟨m, hl⟩, nd, na, hr, hc⟩
    exact ⟨bs, ⟨m, k _ _ (hc a (.inl rfl)).2.2.2 rfl hl⟩, nd, na, hr.mono fun b hb o z q => k b o (hc b (.inr hb)).2.2.2 q z, hc⟩
  ad := by
    rintro F h h' a' hn k ⟨bs, ⟨m, hl⟩, nd, na, hr, hc⟩
    exact ⟨bs, ⟨m, k _ _ hl⟩, nd, na, hr.mono fun b hb o z q => k b o z, fun c z => ⟨.inl (hc c z).1, .inl (hc c z).2.1, (hc c z).2.2⟩⟩
noncomputable abbrev Fr1.adds (F : Fr1) (as : Own) : Fr1 := { F with own := fun b => F.own b ∨ as b, mt := fun b => F.mt b ∨ as b }
theorem Rep.adds {h : Heap} {own as : Own} {d : D} {v : Value} (x : Rep h own d v) (n : ∀ b, as b → h.get? b = none) : Rep h (fun b => own b ∨ as b) d v :=
  x.mono (fun b o q _ e => ⟨fun z => z.elim q fun z => (by rw [n b z] at e; cases e), e⟩) d
theorem Fm.adds {C : Cx} {F : Fr1} {Γ : Gam} {s s' : Shared} (f : Fm C F Γ s) {as : Own} (n' : ∀ b, as b → s.heap.get? b = none) (y : Step No s s') (l : ∀ b, as b → ∃ o, s'.heap.get? b = some o) : Fm C (F.adds as) Γ s' := by
  have g := f.step y
  refine { f with wd := ⟨g.wd.base, fun b z => z.elim (g.wd.nown b) fun z => base_none f.wd (n' b z), fun b z => z.elim (g.wd.oal b) (l b), g.wd.pos⟩, mto := fun b z => z.imp (f.mto b) id, reto := fun b e => .inl (f.reto b e), mtl := .inl f.mtl, mtc := fun x c e q => .inl (f.mtc x c e q), ns := ?_, cel := fun x hx => ?_ }
  · obtain ⟨m, hn, hm⟩ := f.ns
    exact ⟨m, hn.keeps y.all, fun x d e q => by
      obtain ⟨v, h1, h2⟩ := hm x d e q
      exact ⟨v, h1, (h2.adds n').mono (fun b o q _ e => ⟨q, y.all b o e⟩) d⟩⟩
  · obtain ⟨c, o, vv, h1, h2, h3, h4, h5, h6, h7, h8, h9⟩ := f.cel x hx
    exact ⟨c, o, vv, h1, .inl h2, h3, y.all _ _ h4, h5, h6, h7, h8, fun d e => by
      obtain ⟨v, e1, e2⟩ := h9 d e
      exact ⟨v, e1, (e2.adds n').mono (fun b o q _ e => ⟨q, y.all b o e⟩) d⟩⟩

theorem Ex.tbl {y : Str} {py p : Pos} {r : List Stmt} {P : Out → Prop} {elt t iter : Expr} {sc : Scope} {cp : Pos} {items : List D} {row : List Int} {Γ' : Gam} (hP : ∀ Γ I, ¬ P (.nxt Γ I))
    (hi : ItE C (n + 1) nm Γ iter items) (ok : compOk nm sc = true) (hΓ : Cap sc Γ Γ') (his : ∀ d ∈ items, RowIt C (n + 1) sc.names t elt row Γ' d) (hz : items.length ≤ sizeLine)
    (hturn : ∀ it acc env, compTurn (.ListComp elt [⟨t, iter, [], 0⟩] sc cp) 0 it acc env = turnForm t iter [] (emit elt) (.compLoop (.ListComp elt [⟨t, iter, [], 0⟩] sc cp) 0 it acc env) it acc env)
    (hs : ∀ env x, foldedSetIterable iter env x = pure x) (hk : nm.lookup y = some .local) (hf : firstAsync [⟨t, iter, [], 0⟩] = false)
    (hsw : ∀ env : Env, env.scope.kind = .function → env.kindOf y = some .local → swapsWith (.ListComp elt [⟨t, iter, [], 0⟩] sc cp) (some (.Name y py)) p.line env = pure true)
    (k : ∀ a, Ex C (n + 1) nm ((y, .raw (.ref a)) :: Γ) (Tx a (List.replicate items.length row)) r P) : Ex C (n + 1) nm Γ noB (.Assign [.Name y py] (.ListComp elt [⟨t, iter, [], 0⟩] sc cp) p :: r) P := .mk fun F A s q a f i => by
  have ok' := ok
  unfold compOk at ok'
  simp only [Bool.and_eq_true, Bool.not_eq_true', beq_iff_eq] at ok'
  obtain ⟨⟨⟨k1, k2⟩, k3⟩, k4⟩ := ok'
  have hky : F.nm.lookup y = some .local := q ▸ hk
  refine wpAny_execs_cons ?_
  rw [exec_Assign_Name_used _ _ _ _ (hsw _ f.kind (kindOf_of f hky (by decide)))]
  refine wpAny_bind (wpAny_standAt (wpAny_bind ?_))
  show wpAny _ A (do let _ ← comprehension (.ListComp elt [⟨t, iter, [], 0⟩] sc cp) sc F.env iter.pos (newList []) (firstAsync [⟨t, iter, [], 0⟩]) (eval iter F.env) (some (assign (.Name y py) F.env))) _ _ s
  rw [hf]
  refine wpAny_bind (bot_mono (wpAny_comprehension_free (use := some (assign (.Name y py) F.env)) (Q := fun _ s' => ∃ acc, ∃ bs : List Addr, (∀ c, c = acc ∨ c ∈ bs → s.heap.get? c = none) ∧ Step (F.adds fun c => c = acc ∨ c ∈ bs).mt s s' ∧ Fm C (F.adds fun c => c = acc ∨ c ∈ bs) ((y, .raw (.ref acc)) :: Γ) s' ∧ (Tx acc (List.replicate items.length row)).I (F.adds fun c => c = acc ∨ c ∈ bs) s'.heap) rfl (hs _) (closureFor_eq fun x e => ?_) k1 (fun x hx e => nmOk_mem k3 (e ▸ hx)) (row_core hi ok hΓ his hz hturn q a f fun s' acc L vs bs m yy hl ha hr hn hL hne hnb => ?_)) fun _ s₂ ⟨acc, bs, hnew, y₂, f₂, i₂⟩ => wpAny_pure (wpAny_pure ?_))
  · have := List.all_eq_true.mp k4 _ e
    simp only [bne_self_eq_false, Bool.false_or, Bool.or_eq_true, beq_iff_eq] at this
    obtain ⟨c, _, _, h1, _⟩ := f.cel x (q ▸ this)
    exact ⟨c, h1⟩
  · show wpAny _ A (assign (.Name y py) F.env (.ref acc)) _ _ s'
    have hnew : ∀ c, c = acc ∨ c ∈ bs → s.heap.get? c = none := fun c z => z.elim (fun z => z ▸ ha) fun z => (hr.new c z).1
    have hlive : ∀ c, c = acc ∨ c ∈ bs → ∃ o, s'.heap.get? c = some o ∧ Mine.sq o = true := fun c z => by
      rcases z with rfl | z
      · obtain ⟨m, z⟩ := hl; exact ⟨_, z, rfl⟩
      · exact hr.at_.sq c z
    have f' := f.adds (as := fun c => c = acc ∨ c ∈ bs) hnew yy fun b z => let ⟨o, z, _⟩ := hlive b z; ⟨o, z⟩
    have hI : (Tx acc (List.replicate items.length row)).I (F.adds fun c => c = acc ∨ c ∈ bs) s'.heap :=
      ⟨bs, hr.eq ▸ hl, hr.nd, hnb, hr.at_, fun c z => ⟨.inr z, .inr z, fun w => f.wd.off (hnew c z) (f.reto _ w), cell_other f (hnew c z)⟩⟩
    refine wpAny_assign_Name (wpAny_mono (store_ok (F := F.adds fun c => c = acc ∨ c ∈ bs) (E := Bot) (d := .raw (.ref acc)) f' (.inl hky) rfl hI) (fun _ s₂ ⟨y₂, f₂, i₂⟩ => ?_) fun _ _ x => x)
    have hLo : ¬ (F.adds fun c => c = acc ∨ c ∈ bs).own L := fun w => by
      rcases w with w | w
      · exact f.wd.off hL w
      · obtain ⟨o, z, q⟩ := hlive L w
        exact ns_sq hn q z rfl
    have hnL : ∃ m', s₂.heap.Ns L m' := by
      obtain ⟨o, es, ep, h1, h2⟩ := hn
      exact ⟨m, o, es, ep, y₂.keep _ _ (fun e => hLo (f'.mto _ e)) h1, h2⟩
    obtain ⟨m', hn'⟩ := hnL
    have hb : C.h₀.get? L = none := by
      cases e : C.h₀.get? L with
      | none => rfl
      | some o => have := f.wd.base L o e; rw [hL] at this; cases this
    refine ⟨m', hn', fun h' hb' => ?_⟩
    have kp : ∀ b o, b ≠ L → s₂.heap.get? b = some o → h'.get? b = some o := fun b o n e => (hb'.2 b n).trans e
    refine ⟨acc, bs, hnew, ?_, f₂.off hn' hLo hb kp, (Tx acc (List.replicate items.length row)).st _ _ _ (fun b o _ sq' e => kp b o (ns_sq hn' sq' e) e) (own_places f₂) i₂⟩
    have z := yy.non.trans y₂
    exact ⟨fun b o n e => kp b o (fun q => by rw [q, hL] at e; cases e) (z.keep b o n e), fun b o e => by
      obtain ⟨o', e'⟩ := z.alive b o e
      exact ⟨o', kp b o' (fun q => by rw [q, hL] at e; cases e) e'⟩, z.os, z.gens, z.bare, z.tk⟩
  · refine bot_mono ((k acc).go (F.adds fun c => c = acc ∨ c ∈ bs) A s₂ q a f₂ i₂) fun fl s₃ ⟨y₃, o, ho, hf⟩ => ?_
    refine ⟨(Step.refl F.mt s).drop (y₂.trans y₃) fun c o nc e => ?_, ?_⟩
    · rintro (z | z)
      · exact nc z
      · rw [hnew c z] at e; cases e
    · cases o with
      | nxt _ _ => exact (hP _ _ ho).elim
      | ret d =>
        cases fl with
        | ret v => exact ⟨.ret d, ho, hf⟩
        | _ => exact hf.elim
end Mine
namespace Mine
open PySem PySem.Calls PyProof.Rows PySem.W
variable {C : Cx} {n : Nat} {nm : Names} {Γ : Gam}

theorem RowsAt.get {h : Heap} : ∀ {rs : List (List Int)} {bs : List Addr} {i : Nat} {r : List Int}, RowsAt h rs bs → rs[i]? = some r → ∃ b, bs[i]? = some b ∧ ∃ ws, PLst h b ws ∧ Reps h No (Ints r) ws
  | _ :: _, b :: _, 0, _, ⟨x, _⟩, e => by simp at e; subst e; exact ⟨b, rfl, x⟩
  | _ :: rs, _ :: bs, i + 1, r, ⟨_, z⟩, e => by obtain ⟨b, h1, h2⟩ := z.get (by simpa using e); exact ⟨b, by simpa using h1, h2⟩
  | [], [], i, _, _, e => by simp at e
theorem RowsAt.set {h h' : Heap} {r' : List Int} {b : Addr} (hb : ∃ ws, PLst h' b ws ∧ Reps h' No (Ints r') ws) : ∀ {rs : List (List Int)} {bs : List Addr} {i : Nat}, RowsAt h rs bs → bs.Nodup → bs[i]? = some b → (∀ c ∈ bs, c ≠ b → ∀ o, h.get? c = some o → Mine.sq o = true → h'.get? c = some o) → RowsAt h' (rs.set i r') bs
  | _ :: rs, c :: bs, 0, ⟨x, z⟩, nd, e, k => by
    simp at e; subst e
    exact ⟨hb, z.mono fun d hd => k d (.tail _ hd) fun q => (List.nodup_cons.mp nd).1 (q ▸ hd)⟩
  | _ :: rs, c :: bs, i + 1, ⟨⟨ws, ⟨m, hp⟩, hr⟩, z⟩, nd, e, k => by
    have e' : bs[i]? = some b := by simpa using e
    have hm : b ∈ bs := List.mem_of_getElem? e'
    refine ⟨⟨ws, ⟨m, k c (.head _) (fun q => (List.nodup_cons.mp nd).1 (q ▸ hm)) _ hp rfl⟩, ints_atoms hr⟩, z.set hb (List.nodup_cons.mp nd).2 e' fun d hd => k d (.tail _ hd)⟩
  | [], [], i, _, _, e, _ => by simp at e
theorem RowsAt.reps {h : Heap} {own : Own} : ∀ {rs : List (List Int)} {bs : List Addr}, RowsAt h rs bs → (∀ b ∈ bs, ¬ own b) → Reps h own (rs.map fun r => D.lst (Ints r)) (bs.map Value.ref)
  | [], [], _, _ => rfl
  | r :: rs, b :: bs, ⟨⟨ws, hp, hr⟩, z⟩, n => ⟨_, _, rfl, ⟨b, ws, rfl, n b (.head _), hp, ints_atoms hr⟩, z.reps fun c hc => n c (.tail _ hc)⟩

noncomputable def setAt (rows : List (List Int)) (i j : Nat) (v : Int) : List (List Int) := rows.set i ((rows.getD i []).set j v)
/-- x[i][j] = e -/
theorem Ex.seti2 {x : Str} {p p1 p2 p3 : Pos} {i1 i2 e : Expr} {r : List Stmt} {rows : List (List Int)} {row : List Int} {a : Addr} {v i j : Int} {P : Out → Prop} (hx : Γ.lookup x = some (.raw (.ref a))) (hk : nm.lookup x = some .local) (hd : (x == ("__debug__" : Str)) = false)
    (h : Ev C (n + 1) nm Γ e (.int v)) (g1 : Ev C (n + 1) nm Γ i1 (.int i)) (g2 : Ev C (n + 1) nm Γ i2 (.int j)) (i0 : 0 ≤ i) (hi : rows[i.toNat]? = some row) (iz : rows.length < 2 ^ 62) (j0 : 0 ≤ j) (j1 : j < row.length) (jz : row.length < 2 ^ 62)
    (k : Ex C (n + 1) nm Γ (Tx a (rows.set i.toNat (row.set j.toNat v))) r P) (hs : ∀ env, swapsWith e (some (.Subscript (.Subscript (.Name x p1) i1 p2) i2 p3)) p.line env = pure false) (hg : ∀ o j, subscripted i1 false o j = operate [o, j] (getItem o j)) :
    Ex C (n + 1) nm Γ (Tx a rows) (.Assign [.Subscript (.Subscript (.Name x p1) i1 p2) i2 p3] e p :: r) P := ⟨fun F A s q ak f ii => by
  have bx : ∀ {s s'}, Step No s s' → Fm C F Γ s → (Tx a rows).I F s.heap → (Tx a rows).I F s'.heap := fun y f i => (Tx a rows).st F _ _ (fun b o _ _ e => y.all b o e) (own_places f) i
  have htab : ∀ s, Fm C F Γ s → (Tx a rows).I F s.heap → wpAny (model C.prog C.w) A (eval (.Subscript (.Name x p1) i1 p2) F.env) (fun ov s' => Step No s s' ∧ ∃ b, ov = .ref b ∧ ∃ bs : List Addr, bs[i.toNat]? = some b ∧ PLst s'.heap a (bs.map Value.ref) ∧ bs.Nodup ∧ a ∉ bs ∧ RowsAt s'.heap rows bs ∧ ∀ c, c = a ∨ c ∈ bs → F.own c ∧ F.mt c ∧ ¬ F.ret c ∧ ¬ (c = F.env.locals ∨ F.cellAt c)) Bot s := fun s f i' => by
    refine Subscript_ (bot_mono ((Ev.loc (n := n + 1) (p := p1) hx hk hd).go F A s q ak f) fun v s₁ ⟨y, z⟩ => bot_mono (g1.go F A s₁ q ak (f.step y)) fun j s₂ ⟨y₂, z₂⟩ => ?_)
    cases z
    obtain ⟨t, rfl⟩ := z₂
    have yy := y.trans y₂
    obtain ⟨bs, hl, nd, na, hr, hc⟩ := bx yy f i'
    obtain ⟨b, e1, _⟩ := hr.get hi
    have hlt : i.toNat < bs.length := (List.getElem?_eq_some_iff.mp e1).1
    have hlen := hr.len
    exact tail_any hl.is.typeIs slot_list_getitem.lookup (wpAny_getItem_list (x := .ref b) hl.is i0 (by omega) (by simp [e1]) ⟨yy, b, rfl, bs, e1, hl, nd, na, hr, hc⟩) (hg _ _)
  refine wpAny_execs_cons (wpAny_Assign_Subscript (bot_mono (h.go F A s q ak f) fun v' s₁ ⟨y, z⟩ => bot_mono (htab s₁ (f.step y) (bx y f ii)) fun ov s₂ ⟨y₂, b, eb, bs, e1, hl, nd, na, hr, hc⟩ => bot_mono (g2.go F A s₂ q ak (f.step (y.trans y₂))) fun iv s₃ ⟨y₃, z₃⟩ => ?_) (hs _))
  subst eb
  obtain ⟨u, rfl⟩ := z
  obtain ⟨t, rfl⟩ := z₃
  have yy := (y.trans y₂).trans y₃
  have hr₃ : RowsAt s₃.heap rows bs := hr.mono fun c _ o z _ => y₃.all c o z
  obtain ⟨b', e1', ws, hlb, hrb⟩ := hr₃.get hi
  rw [e1] at e1'; cases e1'
  have hlen := hrb.length
  rw [List.length_map] at hlen
  obtain ⟨jn, rfl⟩ := Int.eq_ofNat_of_zero_le j0
  have hbm : b ∈ bs := List.mem_of_getElem? e1
  obtain ⟨o1, o2, o3, o4⟩ := hc b (.inr hbm)
  refine setItem_ok hlb j0 (by omega) (by omega) fun h' hl' hs' => ?_
  obtain ⟨y₄, f₄⟩ := (f.step yy).touch hlb o1 o2 hs' hl'
  have kp : ∀ c o, c ≠ b → s₃.heap.get? c = some o → h'.get? c = some o := fun c o n e => (hs'.2 c n).trans e
  have i₄ : (Tx a (rows.set i.toNat (row.set jn v))).I F h' := by
    refine ⟨bs, (hl.at fun o e => y₃.all _ o e).at fun o e => kp _ o (fun q => na (q ▸ hbm)) e, nd, na, hr₃.set ⟨_, hl', ?_⟩ nd e1 (fun c hc' ne o z _ => kp c o ne z), hc⟩
    have z2 : Reps h' No (Ints row) ws := ints_atoms hrb
    have := reps_set (h := h') (own := No) (d := .int v) (v := .int v u) ⟨u, rfl⟩ jn z2
    rw [Ints] at this ⊢
    rw [List.map_set]; exact this
  exact bot_mono (k.go F A { s₃ with heap := h' } q ak f₄ i₄) fun fl s₅ ⟨y₅, w⟩ => ⟨(yy.non.trans y₄).trans y₅, w⟩⟩

/-- the table is turned no more: it is plain data from here on -/
theorem Ex.freeze {x : Str} {ss : List Stmt} {rows : List (List Int)} {a : Addr} {P : Out → Prop} (hP : ∀ Γ I, ¬ P (.nxt Γ I)) (hx : Γ.lookup x = some (.raw (.ref a))) (hk : nm.lookup x = some .local)
    (k : Ex C n nm ((x, .lst (rows.map fun r => D.lst (Ints r))) :: Γ) noB ss P) : Ex C n nm Γ (Tx a rows) ss P := ⟨fun F A s q ak f ii => by
  obtain ⟨bs, hl, nd, na, hr, hc⟩ := ii
  let F' : Fr1 := { F with own := fun b => F.own b ∧ ¬ (b = a ∨ b ∈ bs), mt := fun b => F.mt b ∧ ¬ (b = a ∨ b ∈ bs) }
  have rp : ∀ {d v}, Rep s.heap F.own d v → Rep s.heap F'.own d v := fun z => z.weak fun b w => w.1
  have f' : Fm C F' ((x, .lst (rows.map fun r => D.lst (Ints r))) :: Γ) s := by
    refine { f with wd := f.wd.weak fun b w => w.1, mto := fun b w => ⟨f.mto b w.1, w.2⟩, reto := fun b w => ⟨f.reto b w, fun z => (hc b z).2.2.1 w⟩, mtl := ⟨f.mtl, fun z => (hc _ z).2.2.2 (.inl rfl)⟩, mtc := fun y c e w => ⟨f.mtc y c e w, fun z => (hc c z).2.2.2 (.inr ⟨y, .inl e, w⟩)⟩, ns := ?_, cel := fun y hy => ?_ }
    · obtain ⟨m, hn, hm⟩ := f.ns
      refine ⟨m, hn, fun y d e w => ?_⟩
      rcases lk_cons e with ⟨rfl, rfl⟩ | ⟨ne, e⟩
      · obtain ⟨v, h1, h2⟩ := hm _ _ hx w
        cases h2
        exact ⟨_, h1, a, _, rfl, fun w => w.2 (.inl rfl), hl, hr.reps fun b hb w => w.2 (.inr hb)⟩
      · obtain ⟨v, h1, h2⟩ := hm y d e w
        exact ⟨v, h1, rp h2⟩
    · obtain ⟨c, o, vv, h1, h2, h3, h4, h5, h6, h7, h8, h9⟩ := f.cel y hy
      refine ⟨c, o, vv, h1, ⟨h2, fun z => (hc c z).2.2.2 (.inr ⟨y, hy, h1⟩)⟩, h3, h4, h5, h6, h7, h8, fun d e => ?_⟩
      rcases lk_cons e with ⟨rfl, rfl⟩ | ⟨ne, e⟩
      · rw [show F.nm.lookup y = some .local from q ▸ hk] at hy; rcases hy with w | w <;> cases w
      · obtain ⟨v, e1, e2⟩ := h9 d e
        exact ⟨v, e1, rp e2⟩
  refine bot_mono (k.go F' A s q ak f' trivial) fun fl s' ⟨y, o, ho, hf⟩ => ⟨y.weak fun b w => w.1, ?_⟩
  cases o with
  | nxt _ _ => exact (hP _ _ ho).elim
  | ret d =>
    cases fl with
    | ret v => exact ⟨.ret d, ho, hf⟩
    | _ => exact hf.elim⟩
end Mine
namespace Mine
open PySem PySem.Calls PyProof.Rows PySem.W
local macro_rules | `(tactic| walk_at "lk") => `(tactic| first | with_reducible exact lk_here | ((with_reducible apply lk_there); (· decide +kernel); (· walk_at "lk")))
local macro_rules | `(tactic| walk_at "nm") => `(tactic| first
  | ((with_reducible apply Ev.loc); (· walk_at "lk"); (· decide +kernel); (· decide +kernel))
  | ((with_reducible apply Gl.glob); (· assumption); (· with_unfolding_all rfl); (· decide +kernel); (· decide +kernel))
  | ((with_reducible apply Gl.bi); (· assumption); (· with_unfolding_all rfl); (· walk_at "bi"); (· decide +kernel); (· decide +kernel); (· decide +kernel))
  | ((with_reducible apply Ev.cel); (· walk_at "lk"); (· first | exact Or.inl (by decide +kernel) | exact Or.inr (by decide +kernel)); (· decide +kernel); (· decide +kernel)))
local macro_rules | `(tactic| walk_at "bi") => `(tactic| first | with_reducible exact bi_max | with_reducible exact bi_min | with_reducible exact bi_int | with_reducible exact bi_abs | with_reducible exact bi_divmod | with_reducible exact bi_tuple | with_reducible exact bi_enumerate | with_reducible exact bi_len | with_reducible exact bi_range | with_reducible exact bi_sum | with_reducible exact bi_list | with_reducible exact bi_sorted | with_reducible exact bi_bytes)
local macro_rules | `(tactic| walk_at "op") => `(tactic| first
  | with_reducible exact Op2.addi | with_reducible exact Op2.subi | with_reducible exact Op2.modi (by first | decide | assumption) | with_reducible exact Op2.divi (by decide) (by decide)
  | with_reducible exact Op2.addf | with_reducible exact Op2.subf | with_reducible exact Op2.mulf | with_reducible exact Op2.divf (by first | assumption | decide +kernel) | with_reducible exact Op2.modf (by first | assumption | decide +kernel)
  | with_reducible exact Op2.adds (by first | assumption | decide) | ((with_reducible refine Op2.addl ?_); (first | assumption | exact Nat.le_of_ble_eq_true rfl | walk_at "zl")) | with_reducible exact Op2.mull (by decide) (by decide)
  | with_reducible exact Op2.muli (by first | assumption | (left; decide) | (right; decide) | (left; constructor <;> omega) | (right; constructor <;> omega)) | with_reducible exact Op2.mulfi (by first | assumption | decide) | with_reducible exact Op2.subfi (by first | assumption | decide) | with_reducible exact Op2.divfi (by decide +kernel) (by decide +kernel) | with_reducible exact Op2.trui (by first | decide | assumption) (by first | assumption | decide +kernel))
local macro_rules | `(tactic| walk_at "cm") => `(tactic| first
  | with_reducible exact Cmp.eqi | with_reducible exact Cmp.eqf | with_reducible exact Cmp.lei | with_reducible exact Cmp.gei | with_reducible exact Cmp.lti | with_reducible exact Cmp.lef | with_reducible exact Cmp.nei | ((with_reducible apply Cmp.isn); (intro w h; cases h)) | walk_at "in"
  | ((with_reducible refine Cmp.eq ?_ ?_ ?_); (· exact Gl.ok (by assumption)); (· first | assumption | rfl); (· exact Nat.le_of_ble_eq_true rfl)))
local macro_rules | `(tactic| walk_at "evs") => `(tactic| first | with_reducible exact Evs.nil | ((with_reducible apply Evs.cons); (· walk_at "ev"); (· walk_at "evs"); (· exact fun _ => rfl)))
local macro_rules | `(tactic| walk_at "ev") => `(tactic| first
  | with_reducible exact Ev.int | with_reducible exact Ev.flt | with_reducible exact Ev.str | with_reducible exact Ev.nne | with_reducible exact Ev.bool | with_reducible exact Ev.byt
  | walk_at "nm"
  | ((with_reducible apply Ev.bin); (· walk_at "ev"); (· walk_at "ev"); (· walk_at "op"))
  | ((with_reducible apply Ev.ite_int); (· walk_at "ts"); (· (intro _; walk_at "ev")); (· (intro _; walk_at "ev")))
  | ((with_reducible apply Ev.ite_flt); (· walk_at "ts"); (· (intro _; walk_at "ev")); (· (intro _; walk_at "ev")))
  | ((with_reducible apply Ev.cmp); (· walk_at "ev"); (· walk_at "ev"); (· walk_at "cm"); (· rfl))
  | ((with_reducible apply Ev.and3); (· walk_at "ev"); (· (intro _; walk_at "ev")); (· (intro _ _; walk_at "ev")))
  | ((with_reducible apply Ev.tup); (· walk_at "evs"); (· first | exact Nat.le_of_ble_eq_true rfl | assumption))
  | ((with_reducible apply Ev.lst); (· walk_at "evs"); (· first | exact Nat.le_of_ble_eq_true rfl | assumption))
  | ((with_reducible apply Ev.calb); (· walk_at "nm"); (· walk_at "evs"); (· walk_at "cal"); (· exact fun _ => rfl); (· exact fun _ => rfl))
  | ((with_reducible apply Ev.calt); (· walk_at "nm"); (· walk_at "evs"); (· walk_at "cal"); (· exact fun _ => rfl); (· exact fun _ => rfl))
  | ((with_reducible apply Ev.cutTo); (· walk_at "ev"); (· walk_at "ev"); (· walk_at "ic"); (· walk_at "iz"); (· exact fun _ _ => rfl))
  | ((with_reducible apply Ev.cutFr); (· walk_at "ev"); (· walk_at "ev"); (· walk_at "ic"); (· walk_at "iz"); (· exact fun _ _ => rfl))
  | ((with_reducible apply Ev.cutMid); (· walk_at "ev"); (· walk_at "ev"); (· walk_at "ev"); (· walk_at "ic"); (· walk_at "ic"); (· walk_at "iz"); (· exact fun _ _ => rfl))
  | ((with_reducible apply Ev.subl); (· walk_at "ev"); (· walk_at "ev"); (· walk_at "i0"); (· walk_at "ix"); (· walk_at "iz"); (· exact fun _ _ => rfl))
  | ((with_reducible apply Ev.subt); (· walk_at "ev"); (· walk_at "ev"); (· walk_at "i0"); (· walk_at "ix"); (· walk_at "iz"); (· exact fun _ _ => rfl)))
local macro_rules | `(tactic| walk_at "i0") => `(tactic| first | decide | assumption | omega)
local macro_rules | `(tactic| walk_at "ix") => `(tactic| first | rfl | assumption)
local macro_rules | `(tactic| walk_at "iz") => `(tactic| first | exact Nat.le_of_ble_eq_true rfl | assumption | (simp; done) | (simp; omega))
local macro_rules | `(tactic| walk_at "cal") => `(tactic| first
  | with_reducible exact Cal.max3f | with_reducible exact Cal.min3f | with_reducible exact Cal.max3i | with_reducible exact Cal.min3i | with_reducible exact Cal.abs | with_reducible exact Cal.inti | with_reducible exact Cal.intf (by assumption)
  | with_reducible exact Cal.suml | with_reducible exact Cal.dvm (by decide) (by decide) | with_reducible exact Cal.lenl (by first | assumption | decide) | with_reducible exact Cal.lens (by first | assumption | decide))
local macro_rules | `(tactic| walk_at "ts") => `(tactic| first
  | ((with_reducible apply Tst.cmp); (· walk_at "ev"); (· walk_at "ev"); (· walk_at "cm"); (· rfl))
  | ((with_reducible apply Tst.not); walk_at "ts")
  | ((with_reducible apply Tst.val); (· walk_at "ev"); (· walk_at "tru"); (· exact fun _ _ => rfl)))
local macro_rules | `(tactic| walk_at "tru") => `(tactic| first | with_reducible exact Tru.int | with_reducible exact Tru.bool)
local macro_rules | `(tactic| walk_at "tasg") => `(tactic| ((with_reducible apply Ex.tasg); (· walk_at "ev"); (· walk_at "asns"); rotate_left; (· exact fun _ => rfl); (· exact fun _ => rfl)))
local macro_rules | `(tactic| walk_at "asg") => `(tactic| ((with_reducible apply Ex.asg); (· walk_at "ev"); (· first | exact Or.inl (by decide +kernel) | exact Or.inr (by decide +kernel)); rotate_left; (· walk_at "sw")))
local macro_rules | `(tactic| walk_at "sw") => `(tactic| first | exact fun _ _ _ => rfl | exact fun _ _ h => swaps_no (h.trans (by decide +kernel)))
local macro_rules | `(tactic| walk_at "swc") => `(tactic| exact fun _ h1 h2 => swaps_ok h1 h2 (by decide +kernel))
local macro_rules | `(tactic| walk_at "wh") => `(tactic| (conv => arg 6; whnf))
local macro_rules | `(tactic| walk_at "ite") => `(tactic| ((with_reducible apply Ex.ite); (· walk_at "ts")))
local macro_rules | `(tactic| walk_at "ret") => `(tactic| ((with_reducible apply Ex.ret); (· walk_at "ev")))
local macro_rules | `(tactic| walk_at "sub") => `(tactic| first | with_reducible exact Sub.nil | ((with_reducible apply Sub.cons); (· walk_at "lk"); (· walk_at "sub")))
local macro_rules | `(tactic| walk_at "cap") => `(tactic| first | with_reducible exact Cap.nil | ((with_reducible apply Cap.cons); (· decide +kernel); (· walk_at "lk"); (· walk_at "cap")))
local macro_rules | `(tactic| walk_at "asn") => `(tactic| first
  | ((with_reducible apply Asn.name); (· first | exact Or.inl (by decide +kernel) | exact Or.inr (by decide +kernel)))
  | ((with_reducible apply Asn.tup); walk_at "asns"))
local macro_rules | `(tactic| walk_at "asns") => `(tactic| first | with_reducible exact Asns.nil | ((with_reducible apply Asns.cons); (· walk_at "asn"); (· walk_at "asns"); (· exact fun _ => rfl)))
local macro_rules | `(tactic| walk_at "rng") => `(tactic| ((with_reducible apply ItE.rng); (· walk_at "nm"); (· walk_at "evs"); (· decide); (· exact fun _ => rfl)))
local macro_rules | `(tactic| walk_at "rngn") => `(tactic| ((with_reducible apply ItE.rngl); (· walk_at "nm"); (· walk_at "evs"); (· rfl); (· decide); (· exact fun _ => rfl)))
local macro_rules | `(tactic| walk_at "in") => `(tactic| first | ((with_reducible refine Gl.inl ?_ ?_); (· assumption); (· first | rfl | assumption)) | ((with_reducible refine Gl.ninl ?_ ?_); (· assumption); (· first | rfl | assumption)) | ((with_reducible refine Gl.int ?_ ?_); (· assumption); (· first | rfl | assumption)) | ((with_reducible refine Gl.nint ?_ ?_); (· assumption); (· first | rfl | assumption)))
local macro_rules | `(tactic| walk_at "evto") => `(tactic| ((with_reducible apply Ev.to); (· walk_at "ev")))
local macro_rules | `(tactic| walk_at "it1") => `(tactic| ((with_reducible apply it1); (· walk_at "asn"); (· walk_at "sub")))
local macro_rules | `(tactic| walk_at "it2") => `(tactic| ((with_reducible apply it2); (· walk_at "asn"); (· walk_at "sub")))
local macro_rules | `(tactic| walk_at "ic") => `(tactic| first | rfl | assumption)
local macro_rules | `(tactic| walk_at "zl") => `(tactic| (simp only [List.length_append, List.length_take, List.length_drop, List.length_map, List.length_cons, List.length_nil, List.length_range]; exact Nat.le_trans (m := 1000) (by omega) (by decide)))
section
variable {C : Cx} {n : Nat} {nm : Names} {Γ : Gam}
theorem in4 {c : Int} (h0 : 1 ≤ c) (h1 : c ≤ 4) : c = 1 ∨ c = 2 ∨ c = 3 ∨ c = 4 := by omega
theorem in6 {c : Int} (h0 : 0 ≤ c) (h1 : c < 6) : c = 0 ∨ c = 1 ∨ c = 2 ∨ c = 3 ∨ c = 4 ∨ c = 5 := by omega
theorem in7 {c : Int} (h0 : 0 ≤ c) (h1 : c < 7) : c = 0 ∨ c = 1 ∨ c = 2 ∨ c = 3 ∨ c = 4 ∨ c = 5 ∨ c = 6 := by omega
noncomputable abbrev f2 : UInt64 := 0x4000000000000000
noncomputable abbrev f05 : UInt64 := 0x3fe0000000000000
noncomputable abbrev f4 : UInt64 := 0x4010000000000000
noncomputable abbrev f6 : UInt64 := 0x4018000000000000
noncomputable abbrev f1 : UInt64 := 0x3ff0000000000000
noncomputable abbrev f0 : UInt64 := 0
noncomputable abbrev feq (a b : UInt64) : Bool := Float64.cmp a b == some .eq
noncomputable abbrev fle (a b : UInt64) : Bool := Float64.cmp a b == some .lt || Float64.cmp a b == some .eq
/-- rgb_to_hls on the bits -/
noncomputable def hls (r g b : UInt64) : UInt64 × UInt64 × UInt64 :=
  let maxc := max3 r g b
  let minc := min3 r g b
  let sumc := Float64.add maxc minc
  let rangec := Float64.sub maxc minc
  let l := Float64.div sumc f2
  bif feq minc maxc then (f0, l, f0) else
  let s := bif fle l f05 then Float64.div rangec sumc else Float64.div rangec (Float64.sub (Float64.sub f2 maxc) minc)
  let rc := Float64.div (Float64.sub maxc r) rangec
  let gc := Float64.div (Float64.sub maxc g) rangec
  let bc := Float64.div (Float64.sub maxc b) rangec
  let h := bif feq r maxc then Float64.sub bc gc else bif feq g maxc then Float64.sub (Float64.add f2 rc) bc else Float64.sub (Float64.add f4 gc) rc
  ((Float64.divmod (Float64.div h f6) f1).2, l, s)
noncomputable def hlsOk (r g b : UInt64) : Bool :=
  let maxc := max3 r g b
  let minc := min3 r g b
  feq minc maxc || (!Float64.isZero (Float64.sub maxc minc) && bif fle (Float64.div (Float64.add maxc minc) f2) f05 then !Float64.isZero (Float64.add maxc minc) else !Float64.isZero (Float64.sub (Float64.sub f2 maxc) minc))
noncomputable abbrev trip (x : UInt64 × UInt64 × UInt64) : D := .tup [.flt x.1, .flt x.2.1, .flt x.2.2]
theorem hls_fn (G : Gl C.up) (hf : IsFn C.up 38 ["r", "g", "b"] (bodyOf 2) (scOf 2)) {r g b : UInt64} (hz : hlsOk r g b = true) : Fn C.up 2 38 [.flt r, .flt g, .flt b] (trip (hls r g b)) := by
  refine Fn.intro G.ok hf (by decide +kernel) rfl ?_
  simp only [psi, pushes]
  walk_at "wh"
  walk_at "asg"
  walk_at "asg"
  walk_at "asg"
  walk_at "asg"
  walk_at "asg"
  walk_at "ite"
  · intro h1
    walk_at "wh"
    walk_at "ret"
    show _ = _
    simp only [hls, h1, cond_true]
  · intro h1
    have hz' := hz
    simp only [hlsOk, h1, Bool.false_or, Bool.and_eq_true, Bool.not_eq_true'] at hz'
    obtain ⟨z1, z2⟩ := hz'
    walk_at "wh"
    walk_at "ite"
    · intro h2
      have z3 : Float64.isZero (Float64.add (max3 r g b) (min3 r g b)) = false := by
        have h2' : fle (Float64.div (Float64.add (max3 r g b) (min3 r g b)) f2) f05 = true := h2
        simpa only [h2', cond_true, Bool.not_eq_true'] using z2
      walk_at "wh"
      walk_at "asg"
      walk_at "wh"
      walk_at "asg"
      walk_at "asg"
      walk_at "asg"
      walk_at "ite"
      · intro h3
        walk_at "wh"
        walk_at "asg"
        walk_at "wh"
        walk_at "asg"
        walk_at "ret"
        show _ = _
        have h2' : fle (Float64.div (Float64.add (max3 r g b) (min3 r g b)) f2) f05 = true := h2
        simp only [hls, h1, h2', h3, cond_true, cond_false]
      · intro h3
        walk_at "wh"
        walk_at "ite"
        · intro h4
          walk_at "wh"
          walk_at "asg"
          walk_at "wh"
          walk_at "asg"
          walk_at "ret"
          show _ = _
          have h2' : fle (Float64.div (Float64.add (max3 r g b) (min3 r g b)) f2) f05 = true := h2
          simp only [hls, h1, h2', h3, h4, cond_true, cond_false]
        · intro h4
          walk_at "wh"
          walk_at "asg"
          walk_at "wh"
          walk_at "asg"
          walk_at "ret"
          show _ = _
          have h2' : fle (Float64.div (Float64.add (max3 r g b) (min3 r g b)) f2) f05 = true := h2
          simp only [hls, h1, h2', h3, h4, cond_true, cond_false]
    · intro h2
      have z3 : Float64.isZero (Float64.sub (Float64.sub f2 (max3 r g b)) (min3 r g b)) = false := by
        have h2' : fle (Float64.div (Float64.add (max3 r g b) (min3 r g b)) f2) f05 = false := h2
        simpa only [h2', cond_false, Bool.not_eq_true'] using z2
      walk_at "wh"
      walk_at "asg"
      walk_at "wh"
      walk_at "asg"
      walk_at "asg"
      walk_at "asg"
      walk_at "ite"
      · intro h3
        walk_at "wh"
        walk_at "asg"
        walk_at "wh"
        walk_at "asg"
        walk_at "ret"
        show _ = _
        have h2' : fle (Float64.div (Float64.add (max3 r g b) (min3 r g b)) f2) f05 = false := h2
        simp only [hls, h1, h2', h3, cond_true, cond_false]
      · intro h3
        walk_at "wh"
        walk_at "ite"
        · intro h4
          walk_at "wh"
          walk_at "asg"
          walk_at "wh"
          walk_at "asg"
          walk_at "ret"
          show _ = _
          have h2' : fle (Float64.div (Float64.add (max3 r g b) (min3 r g b)) f2) f05 = false := h2
          simp only [hls, h1, h2', h3, h4, cond_true, cond_false]
        · intro h4
          walk_at "wh"
          walk_at "asg"
          walk_at "wh"
          walk_at "asg"
          walk_at "ret"
          show _ = _
          have h2' : fle (Float64.div (Float64.add (max3 r g b) (min3 r g b)) f2) f05 = false := h2
          simp only [hls, h1, h2', h3, h4, cond_true, cond_false]
end
section
variable {C : Cx} {n : Nat} {nm : Names} {Γ : Gam}
/-- hsv_to_rgb on the bits -/
noncomputable def hsv (h s v : UInt64) : UInt64 × UInt64 × UInt64 :=
  bif feq s f0 then (v, v, v) else
  let i := truncI (Float64.mul h f6)
  let f := Float64.sub (Float64.mul h f6) (Float64.ofInt i)
  let p := Float64.mul v (Float64.sub f1 s)
  let q := Float64.mul v (Float64.sub f1 (Float64.mul s f))
  let t := Float64.mul v (Float64.sub f1 (Float64.mul s (Float64.sub f1 f)))
  let k := i.fmod 6
  bif k == 0 then (v, t, p) else bif k == 1 then (q, v, p) else bif k == 2 then (p, v, t) else bif k == 3 then (p, q, v) else bif k == 4 then (t, p, v) else (v, p, q)
noncomputable def hsvOk (h s v : UInt64) : Bool :=
  feq s f0 || (Float64.isFinite (Float64.mul h f6) && decide (-1000000 < truncI (Float64.mul h f6)) && decide (truncI (Float64.mul h f6) < 1000000))
theorem six {i : Int} (h0 : (i.fmod 6 == 0) = false) (h1 : (i.fmod 6 == 1) = false) (h2 : (i.fmod 6 == 2) = false) (h3 : (i.fmod 6 == 3) = false) (h4 : (i.fmod 6 == 4) = false) : (i.fmod 6 == 5) = true := by
  rw [Int.fmod_eq_emod_of_nonneg _ (by decide)] at *
  simp only [beq_eq_false_iff_ne, ne_eq, beq_iff_eq] at *
  omega
theorem hsv_fn (G : Gl C.up) (hf : IsFn C.up 45 ["h", "s", "v"] (bodyOf 3) (scOf 3)) {h s v : UInt64} (hz : hsvOk h s v = true) : Fn C.up 2 45 [.flt h, .flt s, .flt v] (trip (hsv h s v)) := by
  refine Fn.intro G.ok hf (by decide +kernel) rfl ?_
  simp only [psi, pushes]
  walk_at "wh"
  walk_at "ite"
  · intro h1
    walk_at "wh"
    walk_at "ret"
    show _ = _
    have h1' : feq s f0 = true := h1
    simp only [hsv, h1', cond_true]
  · intro h1
    have h1' : feq s f0 = false := h1
    simp only [hsvOk, h1', Bool.false_or, Bool.and_eq_true, decide_eq_true_eq] at hz
    obtain ⟨⟨z1, z2⟩, z3⟩ := hz
    have z4 := And.intro z2 z3
    walk_at "wh"
    walk_at "asg"
    walk_at "asg"
    walk_at "asg"
    walk_at "asg"
    walk_at "asg"
    walk_at "asg"
    walk_at "ite"
    · intro k0
      walk_at "wh"
      walk_at "ret"
      show _ = _
      simp only [hsv, h1', k0, cond_true, cond_false]
    · intro k0
      walk_at "wh"
      walk_at "ite"
      · intro k1
        walk_at "wh"
        walk_at "ret"
        show _ = _
        simp only [hsv, h1', k0, k1, cond_true, cond_false]
      · intro k1
        walk_at "wh"
        walk_at "ite"
        · intro k2
          walk_at "wh"
          walk_at "ret"
          show _ = _
          simp only [hsv, h1', k0, k1, k2, cond_true, cond_false]
        · intro k2
          walk_at "wh"
          walk_at "ite"
          · intro k3
            walk_at "wh"
            walk_at "ret"
            show _ = _
            simp only [hsv, h1', k0, k1, k2, k3, cond_true, cond_false]
          · intro k3
            walk_at "wh"
            walk_at "ite"
            · intro k4
              walk_at "wh"
              walk_at "ret"
              show _ = _
              simp only [hsv, h1', k0, k1, k2, k3, k4, cond_true, cond_false]
            · intro k4
              walk_at "wh"
              walk_at "ite"
              · intro k5
                walk_at "wh"
                walk_at "ret"
                show _ = _
                simp only [hsv, h1', k0, k1, k2, k3, k4, cond_true, cond_false]
              · intro k5
                rw [six k0 k1 k2 k3 k4] at k5; cases k5
end
section
variable {C : Cx} {n : Nat} {nm : Names} {Γ : Gam}
noncomputable def brights : List (List Int) := [[0], [0, 1], [1], [1, 2], [2], [0, 2]]
/-- _law_parts -/
noncomputable def partsOf (c q h : Int) : List Int := (rng 3).map fun t => bif inD (.int t) (Ints (brights.getD c.toNat [])) then 2 * q else q * (2 - h)
theorem parts_fn (G : Gl C) (hf : IsFn C 95 ["corner", "quarters", "halves"] (bodyOf 14) (scOf 14)) {c q h : Int} (hc : 0 ≤ c ∧ c < 6) (hq : 0 ≤ q ∧ q ≤ 100) :
    Fn C 3 95 [.int c, .int q, .int h] (.lst (Ints (partsOf c q h))) := by
  refine Fn.intro G.ok hf (by decide +kernel) rfl ?_
  simp only [psi, pushes]
  have hc := in6 hc.1 hc.2
  rcases hc with rfl | rfl | rfl | rfl | rfl | rfl
  · walk_at "wh"
    walk_at "asg"
    (with_reducible apply Ex.ret)
    · (with_reducible apply Ev.mapc (fun i : Int => D.int i) (fun t => D.int (bif inD (.int t) (Ints (brights.getD (0 : Int).toNat [])) then 2 * q else q * (2 - h))) (rng 3) [("bright", .lst _), ("halves", .int h), ("quarters", .int q)])
      · walk_at "rngn"
      · decide +kernel
      · walk_at "cap"
      · intro t ht
        walk_at "it1"
        walk_at "evto"
        rfl
      · exact Nat.le_of_ble_eq_true rfl
      · exact fun _ _ _ => rfl
      · exact fun _ _ => rfl
    · show _ = _
      rfl
  · walk_at "wh"
    walk_at "asg"
    (with_reducible apply Ex.ret)
    · (with_reducible apply Ev.mapc (fun i : Int => D.int i) (fun t => D.int (bif inD (.int t) (Ints (brights.getD (1 : Int).toNat [])) then 2 * q else q * (2 - h))) (rng 3) [("bright", .lst _), ("halves", .int h), ("quarters", .int q)])
      · walk_at "rngn"
      · decide +kernel
      · walk_at "cap"
      · intro t ht
        walk_at "it1"
        walk_at "evto"
        rfl
      · exact Nat.le_of_ble_eq_true rfl
      · exact fun _ _ _ => rfl
      · exact fun _ _ => rfl
    · show _ = _
      rfl
  · walk_at "wh"
    walk_at "asg"
    (with_reducible apply Ex.ret)
    · (with_reducible apply Ev.mapc (fun i : Int => D.int i) (fun t => D.int (bif inD (.int t) (Ints (brights.getD (2 : Int).toNat [])) then 2 * q else q * (2 - h))) (rng 3) [("bright", .lst _), ("halves", .int h), ("quarters", .int q)])
      · walk_at "rngn"
      · decide +kernel
      · walk_at "cap"
      · intro t ht
        walk_at "it1"
        walk_at "evto"
        rfl
      · exact Nat.le_of_ble_eq_true rfl
      · exact fun _ _ _ => rfl
      · exact fun _ _ => rfl
    · show _ = _
      rfl
  · walk_at "wh"
    walk_at "asg"
    (with_reducible apply Ex.ret)
    · (with_reducible apply Ev.mapc (fun i : Int => D.int i) (fun t => D.int (bif inD (.int t) (Ints (brights.getD (3 : Int).toNat [])) then 2 * q else q * (2 - h))) (rng 3) [("bright", .lst _), ("halves", .int h), ("quarters", .int q)])
      · walk_at "rngn"
      · decide +kernel
      · walk_at "cap"
      · intro t ht
        walk_at "it1"
        walk_at "evto"
        rfl
      · exact Nat.le_of_ble_eq_true rfl
      · exact fun _ _ _ => rfl
      · exact fun _ _ => rfl
    · show _ = _
      rfl
  · walk_at "wh"
    walk_at "asg"
    (with_reducible apply Ex.ret)
    · (with_reducible apply Ev.mapc (fun i : Int => D.int i) (fun t => D.int (bif inD (.int t) (Ints (brights.getD (4 : Int).toNat [])) then 2 * q else q * (2 - h))) (rng 3) [("bright", .lst _), ("halves", .int h), ("quarters", .int q)])
      · walk_at "rngn"
      · decide +kernel
      · walk_at "cap"
      · intro t ht
        walk_at "it1"
        walk_at "evto"
        rfl
      · exact Nat.le_of_ble_eq_true rfl
      · exact fun _ _ _ => rfl
      · exact fun _ _ => rfl
    · show _ = _
      rfl
  · walk_at "wh"
    walk_at "asg"
    (with_reducible apply Ex.ret)
    · (with_reducible apply Ev.mapc (fun i : Int => D.int i) (fun t => D.int (bif inD (.int t) (Ints (brights.getD (5 : Int).toNat [])) then 2 * q else q * (2 - h))) (rng 3) [("bright", .lst _), ("halves", .int h), ("quarters", .int q)])
      · walk_at "rngn"
      · decide +kernel
      · walk_at "cap"
      · intro t ht
        walk_at "it1"
        walk_at "evto"
        rfl
      · exact Nat.le_of_ble_eq_true rfl
      · exact fun _ _ _ => rfl
      · exact fun _ _ => rfl
    · show _ = _
      rfl
end
section
variable {C : Cx} {n : Nat} {nm : Names} {Γ : Gam}
noncomputable def oddsOf (l : List Int) : List Int := (l.take 6).map (fun x => x.fmod 2) ++ List.replicate 6 0
noncomputable def wheelAt (l : List Int) (c : Int) : Int × Int × Int := (c, 3 - 2 * c.fmod 2 + (oddsOf l).getD c.toNat 0, 2)
noncomputable def wheelOf (l : List Int) : List (Int × Int × Int) := (rng 6).map (wheelAt l)
noncomputable def numOf (l : List Int) : Int := 142 + (l.take 7).sum
noncomputable def gapOf (l : List Int) : Int := ((numOf l).fdiv 72).fmod 7
noncomputable def strangerOf (l : List Int) : Int × Int × Int := ((numOf l).fmod 6, ((numOf l).fdiv 6).fmod 4 + 1, ((numOf l).fdiv 24).fmod 3)
noncomputable def ringOf (l : List Int) : List (Int × Int × Int) := (wheelOf l).take (gapOf l).toNat ++ [strangerOf l] ++ (wheelOf l).drop (gapOf l).toNat
noncomputable abbrev t3 (x : Int × Int × Int) : D := .tup [.int x.1, .int x.2.1, .int x.2.2]
theorem fmod_nonneg (a : Int) {b : Int} (h : 0 < b) : 0 ≤ a.fmod b := by rw [Int.fmod_eq_emod_of_nonneg _ (Int.le_of_lt h)]; exact Int.emod_nonneg _ (by omega)
theorem fmod_lt (a : Int) {b : Int} (h : 0 < b) : a.fmod b < b := by rw [Int.fmod_eq_emod_of_nonneg _ (Int.le_of_lt h)]; exact Int.emod_lt_of_pos _ h
theorem ring_fn (G : Gl C) (hf : IsFn C 90 ["script"] (bodyOf 13) (scOf 13)) {l : List Int} (hl : l.length ≤ 63) :
    FnP C 4 90 [.lst (Ints l)] (.tup [.lst ((ringOf l).map t3), .int (gapOf l)]) := by
  refine Fn.introP G.ok hf (by decide +kernel) rfl ?_
  simp only [psi, pushes]
  have G' := G.up
  have hz : (Ints l).length ≤ sizeLine := by simp; exact Nat.le_trans hl (by decide)
  have e1 : ∀ k, (Ints l).take k = Ints (l.take k) := fun k => by simp
  have z1 : (((l.take 6).map fun x => D.int (x.fmod 2))).length + (List.replicate (6 : Int).toNat (D.int 0)).length ≤ sizeLine := by
    simp; exact Nat.le_trans (Nat.add_le_add_right (Nat.min_le_left _ _) _) (by decide)
  have ho : ∀ i : Int, 0 ≤ i → i < 6 → (Ints (oddsOf l))[i.toNat]? = some (D.int ((oddsOf l).getD i.toNat 0)) := fun i h0 h1 => by
    have hlen : i.toNat < (oddsOf l).length := by unfold oddsOf; simp; omega
    rw [List.getElem?_map, List.getD_eq_getElem?_getD, List.getElem?_eq_getElem hlen]
    rfl
  have hg0 := fmod_nonneg ((numOf l).fdiv 72) (b := 7) (by decide)
  have hgt : gapOf l = ((gapOf l).toNat : Int) := (Int.toNat_of_nonneg hg0).symm
  conv => arg 5; whnf
  (with_reducible apply ExP.asg)
  · (with_reducible apply EvP.to)
    · (with_reducible apply EvP.bin)
      · (with_reducible apply Ev.mapc (fun i : Int => D.int i) (fun x : Int => D.int (x.fmod 2)) (l.take 6) [])
        · (with_reducible apply ItE.to)
          · apply ItE.lst
            walk_at "ev"
          · exact e1 6
        · decide +kernel
        · walk_at "cap"
        · intro x hx
          walk_at "it1"
          walk_at "ev"
        · exact Nat.le_trans (List.length_take_le _ _) (by decide)
        · exact fun _ _ _ => rfl
        · exact fun _ _ => rfl
      · (with_reducible apply EvP.bin)
        · walk_at "ev"
        · exact EvP.int
        · walk_at "op"
      · walk_at "op"
    · show _ = D.lst (Ints (oddsOf l))
      unfold oddsOf
      simp only [Ints, List.map_append, List.map_map]; rfl
  · exact Or.inr (by decide +kernel)
  rotate_left
  · walk_at "sw"
  (with_reducible apply Ex.mapa (fun i : Int => D.int i) (fun c => t3 (wheelAt l c)) (rng 6) [("odd", .lst (Ints (oddsOf l)))])
  · walk_at "rngn"
  · decide +kernel
  · walk_at "cap"
  · intro c hc
    have hc' := mem_rng hc
    have c0 : 0 ≤ c := hc'.1
    have c1 : c < 6 := hc'.2
    have i0 := ho c c0 c1
    have iz : (Ints (oddsOf l)).length < 2 ^ 62 := by unfold oddsOf; simp; exact Nat.lt_of_le_of_lt (Nat.add_le_add_right (Nat.min_le_left _ _) _) (by decide)
    walk_at "it1"
    walk_at "evto"
    rfl
  · exact Nat.le_of_ble_eq_true rfl
  · exact fun _ _ _ => rfl
  · exact fun _ _ => rfl
  · decide +kernel
  · walk_at "swc"
  (with_reducible apply Ex.asg)
  · (with_reducible apply Ev.bin)
    · walk_at "ev"
    · (with_reducible apply Ev.calb)
      · walk_at "nm"
      · (with_reducible apply Evs.to)
        · walk_at "evs"
        · exact congrArg (fun x => [D.lst x]) (e1 7)
      · walk_at "cal"
      · exact fun _ => rfl
      · exact fun _ => rfl
    · walk_at "op"
  · exact Or.inl (by decide +kernel)
  rotate_left
  · walk_at "sw"
  walk_at "asg"
  walk_at "asg"
  have zw : (List.map (fun c => t3 (wheelAt l c)) (rng 6)).length ≤ sizeLine := by simp; decide
  have hgt' : (((142 + (l.take 7).sum).fdiv 72).fmod 7 : Int) = ((gapOf l).toNat : Int) := hgt
  (with_reducible apply Ex.ret)
  · walk_at "ev"
  · show D.tup [D.lst (List.take _ (List.map _ (rng 6)) ++ _ ++ List.drop _ (List.map _ (rng 6))), _] = _
    have e2 : List.map (fun c => t3 (wheelAt l c)) (rng 6) = (wheelOf l).map t3 := by unfold wheelOf; rw [List.map_map]; rfl
    rw [e2]
    unfold ringOf
    rw [List.map_append, List.map_append, List.map_take, List.map_drop]
    rfl
end
section
variable {C : Cx} {n : Nat} {nm : Names} {Γ : Gam}
/-- what _law_right asks of a mix -/
noncomputable def rightOk (t : UInt64 × UInt64 × UInt64) (a b c : Int) : Bool :=
  let top := max3i a b c
  let low := min3i a b c
  let span := top - low
  !Float64.isInf (ratio top 16) &&
  bif span == 0 then feq t.1 f0 && (feq t.2.1 (ratio top 16) && feq t.2.2 f0) else
  let first : Nat := [a, b, c].idxOf top
  let ahead := [a, b, c].getD ((first + 1) % 3) 0
  let behind := [a, b, c].getD ((first + 2) % 3) 0
  let turn := 2 * span * first + bif decide (behind ≤ ahead) then ahead - low else low - behind
  let share := bif decide (top + low ≤ 16) then ratio span (top + low) else ratio span (32 - top - low)
  let whole := 6 * span
  let x := Float64.add (Float64.mul t.1 (Float64.ofInt whole)) f05
  !Float64.isInf (ratio span (top + low)) && (!Float64.isInf (ratio span (32 - top - low)) && (!Float64.isInf (ratio (top + low) 32) && (Float64.isFinite x && (
  (truncI x).fmod whole == turn.fmod whole && (feq t.2.1 (ratio (top + low) 32) && feq t.2.2 share)))))
theorem max3i_or (a b c : Int) : max3i a b c = a ∨ max3i a b c = b ∨ max3i a b c = c := by unfold max3i; split <;> split <;> simp
theorem bounds3 {a b c : Int} (ha : 0 ≤ a ∧ a ≤ 16) (hb : 0 ≤ b ∧ b ≤ 16) (hc : 0 ≤ c ∧ c ≤ 16) : 0 ≤ min3i a b c ∧ min3i a b c ≤ max3i a b c ∧ max3i a b c ≤ 16 := by
  unfold max3i min3i
  refine ⟨?_, ?_, ?_⟩ <;> (repeat' split) <;> omega
theorem weight16 {a : Int} (h : 0 ≤ a ∧ a ≤ 16) : PyData.weight (.int a) ≤ 16 := by
  simp only [PyData.weight]
  split
  · omega
  · rename_i hne
    have h1 : a.natAbs ≠ 0 := by simpa using hne
    have h2 : a.natAbs.log2 < 5 := (Nat.log2_lt h1).mpr (by omega)
    omega
theorem lay3 {a b c : Int} (ha : 0 ≤ a ∧ a ≤ 16) (hb : 0 ≤ b ∧ b ≤ 16) (hc : 0 ≤ c ∧ c ≤ 16) : PyData.layable0 (.list ([a, b, c].map .int)) = true := by
  have h1 := weight16 ha; have h2 := weight16 hb; have h3 := weight16 hc
  have hw : PyData.weight (.list [.int a, .int b, .int c]) ≤ 2 ^ 20 := by
    have : PyData.weight (.list [.int a, .int b, .int c]) = PyData.weight (.int a) + 1 + (PyData.weight (.int b) + 1 + (PyData.weight (.int c) + 1 + 0)) := rfl
    rw [this]; omega
  show (PyData.canLay0 (.list [.int a, .int b, .int c]) && decide (PyData.depth (.list [.int a, .int b, .int c]) ≤ 64) && decide (PyData.weight (.list [.int a, .int b, .int c]) ≤ 2 ^ 20)) = true
  rw [decide_eq_true hw]; rfl
theorem right_fn (G : Gl C.up) (hf : IsFn C.up 102 ["told", "sums"] (bodyOf 15) (scOf 15)) {t : UInt64 × UInt64 × UInt64} {a b c : Int} (ha : 0 ≤ a ∧ a ≤ 16) (hb : 0 ≤ b ∧ b ≤ 16) (hc : 0 ≤ c ∧ c ≤ 16) (h : rightOk t a b c = true) :
    Fn C.up 4 102 [trip t, .lst (Ints [a, b, c])] (.bool true) := by
  refine Fn.intro G.ok hf (by decide +kernel) rfl ?_
  simp only [psi, pushes]
  obtain ⟨x1, x2, x3⟩ := t
  have hb3 := bounds3 ha hb hc
  unfold rightOk at h
  simp only [Bool.and_eq_true, Bool.not_eq_true'] at h
  obtain ⟨q0, h⟩ := h
  walk_at "wh"
  walk_at "asg"
  walk_at "asg"
  walk_at "asg"
  walk_at "ite"
  · intro h1
    rw [h1] at h
    simp only [cond_true, Bool.and_eq_true] at h
    have hok : okD (trip (x1, x2, x3)) (.tup [.flt f0, .flt (ratio (max3i a b c) 16), .flt f0]) = true := by
      show (_ && (_ && (_ && true))) = true
      rw [Bool.and_true, Bool.and_eq_true, Bool.and_eq_true]
      exact h
    walk_at "wh"
    walk_at "ret"
    show _ = _
    show D.bool ((Float64.cmp x1 0 == some Ordering.eq) && ((Float64.cmp x2 _ == some Ordering.eq) && ((Float64.cmp x3 0 == some Ordering.eq) && true))) = _
    rw [show (Float64.cmp x1 0 == some Ordering.eq) = true from h.1, show (Float64.cmp x3 0 == some Ordering.eq) = true from h.2.2, show (Float64.cmp x2 _ == some Ordering.eq) = true from h.2.1]
    rfl
  · intro h1
    rw [h1] at h
    simp only [cond_false, Bool.and_eq_true, Bool.not_eq_true'] at h
    obtain ⟨q1, q2, q3, q4, q5, q6, q7⟩ := h
    have hs : max3i a b c - min3i a b c ≠ 0 := by simpa using h1
    have w1 : max3i a b c + min3i a b c ≠ 0 := by omega
    have w2 : 32 - max3i a b c - min3i a b c ≠ 0 := by omega
    have w3 : 6 * (max3i a b c - min3i a b c) ≠ 0 := by omega
    have w4 : -1000000 < 6 * (max3i a b c - min3i a b c) ∧ 6 * (max3i a b c - min3i a b c) < 1000000 := by omega
    have hm : max3i a b c ∈ [a, b, c] := by
      rcases max3i_or a b c with e | e | e <;> rw [e] <;> simp
    walk_at "wh"
    (with_reducible apply Ex.asg)
    · (with_reducible apply Ev.met1)
      · walk_at "nm"
      · exact Mt.idx
      · walk_at "evs"
      · exact Cal.idxl hm (lay3 ha hb hc)
      · exact fun _ => ⟨_, rfl⟩
      · exact fun _ => rfl
      · exact fun _ => rfl
    · exact Or.inl (by decide +kernel)
    rotate_left
    · walk_at "sw"
    have hi : [a, b, c].idxOf (max3i a b c) < 3 := List.idxOf_lt_length_iff.mpr hm
    generalize [a, b, c].idxOf (max3i a b c) = i at *
    have hi : i = 0 ∨ i = 1 ∨ i = 2 := by omega
    rcases hi with rfl | rfl | rfl
    all_goals
      walk_at "asg"
      walk_at "asg"
      walk_at "asg"
      walk_at "asg"
      walk_at "asg"
      walk_at "ret"
      exact congrArg D.bool (by rw [Bool.and_eq_true, Bool.and_eq_true]; exact ⟨q5, q6, q7⟩)
end
section
variable {C : Cx} {n : Nat} {nm : Names} {Γ : Gam}
noncomputable def paint (l : List Int) (x : Int) : List Int := l.set (x.fmod 21).toNat ((x.fdiv 21).fmod 3)
/-- _law_anew -/
noncomputable def anewOf (ls ns : List Int) : List Int := ns.foldl paint ls
theorem anew_fn (G : Gl C) (hf : IsFn C 109 ["lights", "numbers"] (bodyOf 16) (scOf 16)) {ls ns : List Int} (hl : ls.length = 21) :
    Fn C 3 109 [.lst (Ints ls), .lst (Ints ns)] (.lst (Ints (anewOf ls ns))) := by
  refine Fn.intro G.ok hf (by decide +kernel) rfl ?_
  simp only [psi, pushes]
  walk_at "wh"
  (with_reducible apply Ex.new)
  · exact fun _ _ h => h
  · (with_reducible apply EvN.copy)
    · walk_at "nm"
    · walk_at "ev"
    · simp [hl]; decide
    · exact fun _ => rfl
  · decide +kernel
  rotate_left
  · walk_at "sw"
  intro a
  refine Ex.for_ (items := Ints ns) (fun items Γ I => ∃ rest cur : List Int, items = Ints rest ∧ cur.length = 21 ∧ rest.foldl paint cur = anewOf ls ns ∧ I = Bx a (Ints cur) ∧
      Γ = ([("painted", .raw (.ref a)), ("numbers", .lst (Ints ns)), ("lights", .lst (Ints ls))] : Gam)) (ItE.lst ?_) ⟨ns, ls, rfl, hl, rfl, rfl, rfl⟩ ?_ ?_ ?_
  · walk_at "ev"
  · rintro d l Γ I ⟨rest, cur, e1, e2, e3, rfl, rfl⟩
    cases rest with
    | nil => cases e1
    | cons x rest =>
      cases e1
      have i0 := fmod_nonneg x (b := 21) (by decide)
      have i1 : x.fmod 21 < ((Ints cur).length : Nat) := by simp only [List.length_map, e2]; exact fmod_lt x (by decide)
      refine ⟨([("x", .int x), ("painted", .raw (.ref a)), ("numbers", .lst (Ints ns)), ("lights", .lst (Ints ls))] : Gam), ?_, ?_⟩
      · walk_at "asn"
      · (with_reducible apply Ex.seti)
        · walk_at "lk"
        · decide +kernel
        · decide +kernel
        · walk_at "ev"
        · walk_at "ev"
        · exact i0
        · exact i1
        · simp [e2]
        · refine Ex.nil ⟨([("painted", .raw (.ref a)), ("numbers", .lst (Ints ns)), ("lights", .lst (Ints ls))] : Gam), ⟨rest, paint cur x, rfl, by simp [paint, e2], e3, ?_, rfl⟩, ?_⟩
          · unfold paint; rw [Ints, Ints, List.map_set]
          · walk_at "sub"
        · exact fun _ => rfl
  · rintro Γ I ⟨rest, cur, e1, e2, e3, rfl, rfl⟩
    cases rest with
    | cons x rest => cases e1
    | nil =>
      (with_reducible apply Ex.retb)
      · walk_at "lk"
      · decide +kernel
      · decide +kernel
      · show _ = _
        rw [← e3]; rfl
  · exact fun _ _ => rfl
end
section
variable {C : Cx} {n : Nat} {nm : Names} {Γ : Gam}
noncomputable abbrev AP : List UInt8 := [65, 66, 67, 68, 69, 70, 71, 72, 73, 74, 75, 76, 77, 78, 79, 80]
noncomputable def apAt (m : Int) : UInt8 := UInt8.ofNat (65 + m.toNat)
theorem pickAP {m : Int} (h : 0 ≤ m ∧ m < 16) : KBy.picked AP.toArray (some m) (some (m + 1)) = #[apAt m] ∧ KBy.whole AP.toArray (some m) (some (m + 1)) = false := by
  have key : ((rng 16).all fun m => KBy.picked AP.toArray (some m) (some (m + 1)) == #[apAt m] && !KBy.whole AP.toArray (some m) (some (m + 1))) = true := by decide +kernel
  have hm := List.all_eq_true.mp key m (List.mem_map.mpr ⟨m.toNat, List.mem_range.mpr (by omega), by omega⟩)
  simpa using hm
theorem ap_turn {val : Array UInt8} {num : Int} {P : Out → Prop} (G : Gl C) (hv : val.size ≤ 1000) (h0 : 0 ≤ num)
    (hP : P (.nxt [("val", .byt (#[apAt (num.fmod 16)] ++ val)), ("mod", .int (num.fmod 16)), ("num", .int (num.fdiv 16)), ("num", .int num), ("AP", .byt AP.toArray), ("val", .byt val)] noB)) :
    Ex C 3 (scOf 6).names [("num", .int num), ("AP", .byt AP.toArray), ("val", .byt val)] noB (wbody ((bodyOf 6).drop 3)) P := by
  have hm0 := fmod_nonneg num (b := 16) (by decide)
  have hm1 := fmod_lt num (b := 16) (by decide)
  obtain ⟨e1, e2⟩ := pickAP ⟨hm0, hm1⟩
  conv => arg 6; whnf
  walk_at "tasg"
  (with_reducible apply Ex.asg)
  · (with_reducible apply Ev.bin)
    · (with_reducible apply Ev.to)
      · (with_reducible apply Ev.cutb)
        · walk_at "ev"
        · (with_reducible apply Pt.some)
          walk_at "ev"
        · (with_reducible apply Pt.some)
          walk_at "ev"
        · exact e2
        · rw [e1]; exact Nat.le_of_ble_eq_true rfl
        · exact fun _ _ => rfl
      · exact congrArg D.byt e1
    · walk_at "ev"
    · exact Op2.addb (by simp; omega)
  · exact Or.inl (by decide +kernel)
  · exact Ex.nil hP
  · walk_at "sw"
theorem ap_fn (G : Gl C) (hf : IsFn C 57 ["num"] (bodyOf 6) (scOf 6)) {p q : Int} (hp : 1 ≤ p ∧ p < 16) (hq : 0 ≤ q ∧ q < 16) :
    Fn C 3 57 [.int (16 * p + q)] (.byt #[apAt p, apAt q]) := by
  refine Fn.intro G.ok hf (by decide +kernel) rfl ?_
  simp only [psi, pushes]
  walk_at "wh"
  walk_at "asg"
  walk_at "asg"
  (with_reducible apply Ex.asg)
  · (with_reducible apply Ev.calt)
    · walk_at "nm"
    · (with_reducible apply Evs.to)
      · walk_at "evs"
      · rw [if_neg (show ¬ 16 * p + q < 0 by omega)]
    · walk_at "cal"
    · exact fun _ => rfl
    · exact fun _ => rfl
  · exact Or.inl (by decide +kernel)
  rotate_left
  · walk_at "sw"
  refine Ex.mono (P := fun o => o = .ret (.byt #[apAt p, apAt q])) ?_ (fun o h => by subst h; exact rfl)
  refine Ex.sub (Γ' := [("num", .int (16 * p + q)), ("AP", .byt AP.toArray), ("val", .byt #[])]) ?_ ?_
  rotate_left
  · walk_at "sub"
  refine Ex.while_ (fun k Γ I => I = noB ∧ ∃ num val, Γ = ([("num", .int num), ("AP", .byt AP.toArray), ("val", .byt val)] : Gam) ∧ ((k = 2 ∧ num = 16 * p + q ∧ val = #[]) ∨ (k = 1 ∧ num = p ∧ val = #[apAt q]) ∨ (k = 0 ∧ num = 0 ∧ val = #[apAt p, apAt q]))) 2 ?_ ?_
  · exact ⟨rfl, _, _, rfl, .inl ⟨rfl, rfl, rfl⟩⟩
  · rintro k Γ I ⟨rfl, num, val, rfl, h⟩
    have d1 : (16 * p + q).fdiv 16 = p := by rw [Int.fdiv_eq_ediv_of_nonneg _ (by decide)]; omega
    have d2 : (16 * p + q).fmod 16 = q := by rw [Int.fmod_eq_emod_of_nonneg _ (by decide)]; omega
    have d3 : p.fdiv 16 = 0 := by rw [Int.fdiv_eq_ediv_of_nonneg _ (by decide)]; omega
    have d4 : p.fmod 16 = p := by rw [Int.fmod_eq_emod_of_nonneg _ (by decide)]; omega
    refine ⟨num != 0, ?_, ?_, ?_⟩
    · walk_at "ts"
    · intro hb
      rcases h with ⟨rfl, rfl, rfl⟩ | ⟨rfl, rfl, rfl⟩ | ⟨rfl, rfl, rfl⟩
      · refine ap_turn G (by decide) (by omega) ⟨1, [("num", .int p), ("AP", .byt AP.toArray), ("val", .byt #[apAt q])], by decide, ⟨rfl, _, _, rfl, .inr (.inl ⟨rfl, rfl, rfl⟩)⟩, ?_⟩
        rw [d1, d2, Array.append_empty]
        walk_at "sub"
      · refine ap_turn G (by simp) (by omega) ⟨0, [("num", .int 0), ("AP", .byt AP.toArray), ("val", .byt #[apAt num, apAt q])], by decide, ⟨rfl, _, _, rfl, .inr (.inr ⟨rfl, rfl, rfl⟩)⟩, ?_⟩
        rw [d3, d4, show #[apAt num] ++ #[apAt q] = #[apAt num, apAt q] from rfl]
        walk_at "sub"
      · simp at hb
    · intro hb
      rcases h with ⟨rfl, rfl, rfl⟩ | ⟨rfl, rfl, rfl⟩ | ⟨rfl, rfl, rfl⟩
      · simp at hb; omega
      · simp at hb; omega
      · walk_at "ret"
        rfl
end
section
variable {C : Cx} {n : Nat} {nm : Names} {Γ : Gam}
theorem pf_fn (G : Gl C) (hf : IsFn C 64 ["resp"] (bodyOf 7) (scOf 7)) {c d : Addr} (P : Pat C 50 c d) {b : Array UInt8} {ws : List (List UInt8)} (T : Txt1 b (joinB ws).length) (hx : b.extract 18 (18 + (joinB ws).length) = (joinB ws).toArray) (hg : ∀ w ∈ ws, good w) :
    Fn C 4 64 [.byt b] (.tup (Byts ws)) := by
  refine Fn.intro G.ok hf (by decide +kernel) rfl ?_
  simp only [psi, pushes]
  walk_at "wh"
  refine pf_stmts (n := 3) G P T hx hg (by decide +kernel) (by decide +kernel) (by decide +kernel) (by decide +kernel) ?_ ?_ ?_ ?_
  · show _ = _
    rfl
  · exact fun _ => ⟨_, rfl⟩
  · exact fun _ => ⟨_, rfl⟩
  · exact fun _ => ⟨_, rfl⟩
end
section
variable {C : Cx} {n : Nat} {nm : Names} {Γ : Gam}
noncomputable abbrev t2 (x : Int × Int) : D := .tup [.int x.1, .int x.2]
noncomputable def ends21 : List (Int × Int) := [(0, 1), (0, 2), (0, 3), (0, 4), (0, 5), (0, 6), (1, 2), (1, 3), (1, 4), (1, 5), (1, 6), (2, 3), (2, 4), (2, 5), (2, 6), (3, 4), (3, 5), (3, 6), (4, 5), (4, 6), (5, 6)]
noncomputable def tie (k : Int) : Int × Int := ends21.getD k.toNat (0, 0)
theorem tie_at {k : Int} (h0 : 0 ≤ k) (h1 : k < 21) : (ends21.map t2)[k.toNat]? = some (t2 (tie k)) := by
  have hl : k.toNat < ends21.length := by show k.toNat < 21; omega
  rw [List.getElem?_map, tie, List.getD_eq_getElem?_getD, List.getElem?_eq_getElem hl]; rfl
theorem tie_in {k : Int} (h0 : 0 ≤ k) (h1 : k < 21) : 0 ≤ (tie k).1 ∧ (tie k).1 < (tie k).2 ∧ (tie k).2 < 7 := by
  have hl : k.toNat < ends21.length := by show k.toNat < 21; omega
  have hm : tie k ∈ ends21 := by rw [tie, List.getD_eq_getElem?_getD, List.getElem?_eq_getElem hl]; exact List.getElem_mem hl
  have hall : ends21.all (fun p => decide (0 ≤ p.1) && decide (p.1 < p.2) && decide (p.2 < 7)) = true := by decide
  have := List.all_eq_true.mp hall _ hm
  simp only [Bool.and_eq_true, decide_eq_true_eq] at this
  exact ⟨this.1.1, this.1.2, this.2⟩
noncomputable def wordAt (k : Int) : List UInt8 := [apAt ((tie k).1 + 1), apAt ((tie k).2 + 1)]
/-- the ties of a light -/
noncomputable def ofLight (ls : List Int) (tone : Int) : List Int := (rng 21).filter fun k => ls.getD k.toNat 0 == tone
noncomputable def wordsOf (ls : List Int) (tone : Int) : List (List UInt8) := (ofLight ls tone).map wordAt
theorem ap_mid {m : Int} (h0 : 1 ≤ m) (h1 : m ≤ 7) : mid (apAt m) = true ∧ PySem.Builtin.Bytes.isSpace (apAt m) = false := by
  have key : ((rng 8).all fun m => m == 0 || (mid (apAt m) && !PySem.Builtin.Bytes.isSpace (apAt m))) = true := by decide +kernel
  have hm := List.all_eq_true.mp key m (List.mem_map.mpr ⟨m.toNat, List.mem_range.mpr (by omega), by omega⟩)
  rw [show (m == 0) = false from beq_eq_false_iff_ne.mpr (by omega), Bool.false_or, Bool.and_eq_true, Bool.not_eq_true'] at hm
  exact hm
theorem ofLight_in {ls : List Int} {tone k : Int} (h : k ∈ ofLight ls tone) : 0 ≤ k ∧ k < 21 := mem_rng (List.mem_filter.mp h).1
theorem wordsOf_good (ls : List Int) (tone : Int) : (∀ w ∈ wordsOf ls tone, good w) ∧ ∀ w ∈ wordsOf ls tone, ∀ c ∈ w, mid c = true := by
  have key : ∀ w ∈ wordsOf ls tone, ∃ a b : Int, w = [apAt a, apAt b] ∧ (1 ≤ a ∧ a ≤ 7) ∧ (1 ≤ b ∧ b ≤ 7) := fun w hw => by
    obtain ⟨k, hk, rfl⟩ := List.mem_map.mp hw
    obtain ⟨h0, h1⟩ := ofLight_in hk
    have := tie_in h0 h1
    exact ⟨_, _, rfl, by omega, by omega⟩
  constructor
  · intro w hw
    obtain ⟨a, b, rfl, ha, hb⟩ := key w hw
    refine ⟨by simp, fun c hc => ?_⟩
    rcases List.mem_cons.mp hc with rfl | hc
    · exact (ap_mid ha.1 ha.2).2
    · rcases List.mem_singleton.mp hc with rfl; exact (ap_mid hb.1 hb.2).2
  · intro w hw c hc
    obtain ⟨a, b, rfl, ha, hb⟩ := key w hw
    rcases List.mem_cons.mp hc with rfl | hc
    · exact (ap_mid ha.1 ha.2).1
    · rcases List.mem_singleton.mp hc with rfl; exact (ap_mid hb.1 hb.2).1
theorem wordsOf_len (ls : List Int) (tone : Int) : (wordsOf ls tone).length ≤ 21 := by
  unfold wordsOf ofLight
  rw [List.length_map]
  exact Nat.le_trans (List.length_filter_le _ _) (by decide)
theorem joinB_two : ∀ (ws : List (List UInt8)), (∀ w ∈ ws, w.length = 2) → (joinB ws).length ≤ 3 * ws.length
  | [], _ => Nat.le_refl _
  | w :: r, h => by
    rw [joinB_flat]
    have hw := h w (.head _)
    have : (r.flatMap fun v => 32 :: v).length = 3 * r.length := by
      have h' : ∀ v ∈ r, v.length = 2 := fun v hv => h v (.tail _ hv)
      clear h
      induction r with
      | nil => rfl
      | cons v r ih =>
        have := ih fun x hx => h' x (.tail _ hx)
        have hv := h' v (.head _)
        simp only [List.flatMap_cons, List.length_append, List.length_cons] at this ⊢; omega
    simp only [List.length_append, List.length_cons] at this ⊢; omega
theorem wordsOf_join (ls : List Int) (tone : Int) : (joinB (wordsOf ls tone)).length ≤ 63 := by
  have h1 := joinB_two (wordsOf ls tone) fun w hw => by obtain ⟨k, _, rfl⟩ := List.mem_map.mp hw; rfl
  have h2 := wordsOf_len ls tone
  omega
theorem flags_fn (G : Gl C) (hf : IsFn C 114 ["ends", "lights", "tone"] (bodyOf 17) (scOf 17)) (ha : IsFn C 57 ["num"] (bodyOf 6) (scOf 6)) (hp : IsFn C 64 ["resp"] (bodyOf 7) (scOf 7)) {c d : Addr} (P : Pat C 50 c d)
    {ls : List Int} (hl : ls.length = 21) {tone : Int} : Fn C 7 114 [.lst (ends21.map t2), .lst (Ints ls), .int tone] (.tup (Byts (wordsOf ls tone))) := by
  refine Fn.intro G.ok hf (by decide +kernel) rfl ?_
  simp only [psi, pushes]
  have iz : (ends21.map t2).length < 2 ^ 62 := by decide
  have lz : (Ints ls).length < 2 ^ 62 := by simp [hl]
  walk_at "wh"
  (with_reducible apply Ex.fila (fun k : Int => D.int k) (fun k : Int => D.byt (wordAt k).toArray) (fun k : Int => ls.getD k.toNat 0 == tone) (rng 21) [("ends", .lst (ends21.map t2)), ("lights", .lst (Ints ls)), ("tone", .int tone)])
  · walk_at "rngn"
  · decide +kernel
  · walk_at "cap"
  · intro k hk
    obtain ⟨k0, k1⟩ := mem_rng hk
    have k1 : k < 21 := k1
    have i1 := tie_at k0 k1
    obtain ⟨b0, b1, b2⟩ := tie_in k0 k1
    have i2 : (Ints ls)[k.toNat]? = some (D.int (ls.getD k.toNat 0)) := by
      have hlt : k.toNat < ls.length := by omega
      rw [List.getElem?_map, List.getD_eq_getElem?_getD, List.getElem?_eq_getElem hlt]; rfl
    walk_at "it2"
    · walk_at "ts"
    · intro _
      (with_reducible apply Ev.calF)
      · walk_at "nm"
      · (with_reducible apply Evs.to)
        · walk_at "evs"
        · show [D.int (16 * (tie k).1 + 17 + (tie k).2)] = [D.int (16 * ((tie k).1 + 1) + ((tie k).2 + 1))]
          congr 2; omega
      · exact ha
      · exact ap_fn G ha (by omega) (by omega)
      · decide
      · exact fun _ => rfl
  · exact Nat.le_of_ble_eq_true rfl
  · exact fun _ _ _ => rfl
  · exact fun _ _ => rfl
  · decide +kernel
  · walk_at "swc"
  have hz := wordsOf_join ls tone
  have hw : (((rng 21).filter fun k : Int => ls.getD k.toNat 0 == tone).map fun k : Int => D.byt (wordAt k).toArray) = Byts (wordsOf ls tone) := by
    unfold wordsOf ofLight; rw [Byts, List.map_map]; rfl
  rw [hw]
  (with_reducible apply Ex.ret)
  · (with_reducible apply Ev.calF)
    · walk_at "nm"
    · (with_reducible apply Evs.cons)
      · (with_reducible apply Ev.to)
        · (with_reducible apply Ev.bin)
          · (with_reducible apply Ev.bin)
            · walk_at "ev"
            · (with_reducible apply Ev.met1)
              · walk_at "ev"
              · exact Mt.join
              · walk_at "evs"
              · exact Cal.join (by omega) (Nat.le_trans (wordsOf_len ls tone) (by decide))
              · exact fun _ => ⟨_, rfl⟩
              · exact fun _ => rfl
              · exact fun _ => rfl
            · exact Op2.addb (by simp; omega)
          · walk_at "ev"
          · exact Op2.addb (by simp; omega)
        · show D.byt (preB.toArray ++ (joinB (wordsOf ls tone)).toArray ++ sufB.toArray) = D.byt (preB ++ joinB (wordsOf ls tone) ++ sufB).toArray
          congr 1
          apply Array.toList_inj.mp
          simp
      · walk_at "evs"
      · exact fun _ => rfl
    · exact hp
    · exact pf_fn G hp P (flag_text (joinB_mid _ (wordsOf_good ls tone).2) (by omega)) flag_cut (wordsOf_good ls tone).1
    · decide
    · exact fun _ => rfl
  · show _ = _
    rfl
end
section
open PySem.W.X
variable {C : Cx} {n : Nat} {nm : Names} {Γ : Gam}
theorem enum_ev {x : Str} {nx : Str} {p p' : Pos} {e : Expr} (hx : Ev C n nm Γ (.Name nx p') (.raw (.type "enumerate"))) (ha : Evs C n nm Γ [e] [.str x]) (he : ∀ env, starEach [e] env = (false, eval e env) :: starEach [] env)
    {F : Fr1} {A : Around} {s : Shared} (q : F.nm = nm) (a : Aok n A) (f : Fm C F Γ s) :
    wpAny (model C.prog C.w) A (eval (.Call (.Name nx p') [e] [] p) F.env) (fun v s₁ => wpAny (model C.prog C.w) A (pyIter v) (fun r s₂ => ∃ e i t, r = .ref e ∧ Step No s s₂ ∧ IsEnum s₂.heap e i 0 .none ∧ s₂.heap.IsStrIter i (strIterType x) x t 0 ∧ e ≠ i ∧ s.heap.get? e = none ∧ s.heap.get? i = none) Bot s₁) Bot s := by
  show wpAny _ _ (eval (.Name nx p') F.env >>= fun fv => callWith p fv [] (backTo p (starEach [e] F.env)) (backToKw p (keywordEach [] F.env))) _ _ s
  refine wpAny_bind (bot_mono (hx.go F A s q a f) fun v s₁ ⟨y, z⟩ => ?_)
  cases z
  refine PyProof.Rows.callWith_type1 (bot_mono (ha.go F A s₁ p q a (f.step y)) fun vs s₂ ⟨y₂, hr⟩ => ?_) (he _) rfl
  obtain ⟨_, _, rfl, ⟨t, rfl⟩, hn⟩ := hr
  cases hn
  refine call_enumerate_str fun h' hE hI hz hk => ?_
  have y₃ : Step No s { s₂ with heap := h' } := (y.trans y₂).trans (.ext (t := s₂.toks) fun b o z => hk b o z)
  have new : ∀ k, s₂.heap.objs.size ≤ k → s.heap.get? k = none := fun k hk => by
    cases z : s.heap.get? k with
    | none => rfl
    | some o => have := (y.trans y₂).all _ _ z; rw [none_of_le hk] at this; cases this
  exact wpAny_pyIter_enum hE ⟨_, _, t, rfl, y₃, hE, hI, Nat.succ_ne_self _, new _ (Nat.le_succ _), new _ (Nat.le_refl _)⟩
noncomputable abbrev Gesc : Gam := [("escape", .bool false)]
theorem sx_For' {prog : Program} {w : World} {A : Around} {c : Code} {fs : List Frame} {P : End → Shared → Prop} {s : Shared} {K : Flow → Sem Fin} {H : Value → Sem Fin} {gd : Bool → Bool} {lv : List Value → List Value}
    {t it : Expr} {body r ss : List Stmt} {p : Pos} {env : Env} (e : ss = .For t it body [] p :: r) (hgd : gd false = false) (hs : ∀ x, foldedSetIterable it env x = pure x)
    (h : wpAny (model prog w) (A.over c fs) (eval it env) (fun x s₁ => wpAny (model prog w) (A.over c fs) (pyIter x) (fun v s₂ => ∀ kk lv' p', (∀ A' s' P', SegX (model prog w) A' c ((execs r env).wrap K H gd lv) fs s' P' → SegX (model prog w) A' c (kk (.ok .next)) fs s' P') →
      SegX (model prog w) A (.forLoop t v body [] env) (denote table (.forLoop t v body [] env)) (.ret kk none false lv' c p' [] :: fs) s₂ P) Bot s₁) Bot s) :
    SegX (model prog w) A c ((execs ss env).wrap K H gd lv) fs s P := by subst e; exact sx_For hgd hs h
theorem sx_If' {prog : Program} {w : World} {A : Around} {c : Code} {fs : List Frame} {P : End → Shared → Prop} {s : Shared} {K : Flow → Sem Fin} {H : Value → Sem Fin} {gd : Bool → Bool} {lv : List Value → List Value}
    {t : Expr} {a b r ss : List Stmt} {p : Pos} {env : Env} {v : Bool} (e : ss = .If t a b p :: r)
    (h : wpAny (model prog w) (A.over c fs) (isTrue t env (eval t env)) (fun x s' => x = v ∧ SegX (model prog w) A c ((execs ((bif v then a else b) ++ r) env).wrap K H gd lv) fs s' P) Bot s) : SegX (model prog w) A c ((execs ss env).wrap K H gd lv) fs s P := by subst e; exact sx_If h
theorem esc_start (G : Gl C) {F : Fr1} (q : F.nm = (scOf 9).names) {x : Str} (hx : ∀ c ∈ x.cps.toList, c ≠ 92) : GStart C (scOf 9).names [("addr", .str x)] Gesc F (bodyOf 9) x := by
  refine ⟨fun y d e => ?_, fun A s P ak f K => ?_⟩
  · rcases lk_cons e with ⟨_, rfl⟩ | ⟨_, e⟩
    · rfl
    · cases e
  have ak0 : Aok 3 (A.over (.func (bodyOf 9) F.env) []) := ak.over0
  refine sx_func ?_
  have e0 : bodyOf 9 = (bodyOf 9).take 2 ++ (bodyOf 9).drop 2 := (List.take_append_drop 2 _).symm
  rw [show (execs (bodyOf 9) F.env) = execs ((bodyOf 9).take 2 ++ (bodyOf 9).drop 2) F.env from congrArg (fun b => execs b F.env) e0]
  refine sx_pre (Γ' := [("escape", .bool false), ("pos", .int 0), ("addr", .str x)]) q ak0 f ?_ fun s₁ y₁ f₁ => ?_
  · walk_at "wh"
    walk_at "asg"
    walk_at "wh"
    walk_at "asg"
    walk_at "wh"
    exact Ex.nil rfl
  refine sx_For' (by with_unfolding_all rfl) rfl (fun _ => rfl) ?_
  refine bot_mono (enum_ev (n := 3) (nm := (scOf 9).names) (x := x) ?_ ?_ (fun _ => rfl) q ak0 f₁) fun v s₂ hv => bot_mono hv fun r s₃ ⟨e, i, t, hr, y₂, hE, hI, hne, he, hi⟩ kk lv' p' hk => ?_
  · walk_at "nm"
  · walk_at "evs"
  subst hr
  have f₃ := f₁.step y₂
  have z0 : ∀ b, s₁.heap.get? b = none → s.heap.get? b = none := fun b q => by
    cases z : s.heap.get? b with
    | none => rfl
    | some o => obtain ⟨o', z'⟩ := y₁.alive b o z; rw [q] at z'; cases z'
  refine K e i t s₃ _ _ ⟨f₃.sub (Γ' := Gesc) (by walk_at "sub"), ⟨_, hE⟩, hI, hne, f₁.wd.off he, f₁.wd.off hi, base_none f₁.wd he, base_none f₁.wd hi⟩ (y₁.trans y₂.non) (z0 _ he) (z0 _ hi) ⟨fun y d e => ?_, _, _, kk, lv', p', _, _, _, _, _, _, _, _, _, _, _, _, fun i c => [("ch", .str ⟨#[c]⟩), ("pos", .int i), ("escape", .bool false)], rfl, rfl, fun i c => ?_, fun i c => ?_, fun i c => ?_, fun i c hc => ?_, fun i c => ?_, fun A' s' P' ak' f' hP => ?_⟩
  · rcases lk_cons e with ⟨_, rfl⟩ | ⟨_, e⟩
    · rfl
    · cases e
  · walk_at "asns"
  · walk_at "sub"
  · walk_at "ts"
  · (with_reducible apply Tst.to)
    · walk_at "ts"
    · have hne : c ≠ 92 := hx c (by rw [← Array.getElem?_toList] at hc; exact List.mem_of_getElem? hc)
      show ((⟨#[c]⟩ : Str) == ⟨#[92]⟩) = false
      refine beq_eq_false_iff_ne.mpr fun h => hne ?_
      have h' : (#[c] : Array Nat) = #[92] := congrArg Str.cps h
      simpa using h'
  · walk_at "evs"
  · refine hk A' s' P' ?_
    refine sx_If' (v := false) (by with_unfolding_all rfl) ?_
    have ht : Tst C 2 (scOf 9).names Gesc (.Name ("escape" : Str) ⟨74, 7, 74, 13⟩) false := by walk_at "ts"
    refine bot_mono (ht.go F _ s' q ak'.over0 f') fun r s'' ⟨y, e⟩ => ⟨e, ?_⟩
    exact s_end C.prog C.w A' (.func (bodyOf 9) F.env) P' _ (.ok (.ret .none)) _ rfl (hP _ y.non)
theorem ItE.esc (G : Gl C) (hf : IsFn C 71 ["addr"] (bodyOf 9) (scOf 9)) {nx : Str} {p p' : Pos} {e : Expr} {x : Str} (hn : Ev C (n + 5) nm Γ (.Name nx p') (.raw (.ref 71))) (ha : Evs C (n + 5) nm Γ [e] [.str x])
    (he : ∀ env, starEach [e] env = (false, eval e env) :: starEach [] env) (hx : ∀ c ∈ x.cps.toList, c ≠ 92) : ItE C (n + 5) nm Γ (.Call (.Name nx p') [e] [] p) (itmL 0 x.cps.toList) := .mk fun F A s q a f => by
  obtain ⟨o, fd, ho, hd, hsc, hbody, hclo, hgl, hbl, hcode, hbind⟩ := hf.ex
  show wpAny _ _ (eval (.Name nx p') F.env >>= fun fv => callWith p fv [] (backTo p (starEach [e] F.env)) (backToKw p (keywordEach [] F.env))) _ _ s
  refine wpAny_bind (bot_mono (hn.go F A s q a f) fun v s₁ ⟨y, z⟩ => ?_)
  cases z
  refine callWith_function (o := o) (fd := fd) ?_
  have z := ha.go F A s₁ p q a (f.step y)
  rw [he] at z ⊢
  refine evalArgs_plain (bot_mono z fun vs s₂ ⟨y₂, hr⟩ => ⟨⟨(f.step (y.trans y₂)).wd.base _ _ ho, hd⟩, wpAny_call ?_⟩)
  have f₂ := f.step (y.trans y₂)
  have k1 : fd.scope.kind = .function := by rw [hsc]; decide +kernel
  have k2 : fd.scope.isCoroutine = false := by rw [hsc]; decide +kernel
  have k3 : fd.scope.isGenerator = true := by rw [hsc]; decide +kernel
  have k4 : ∀ p ∈ fd.scope.names, p.2 ≠ .free := by rw [hsc]; decide +kernel
  have k5 : ∀ p ∈ fd.scope.names, p.2 ≠ .cell := by rw [hsc]; decide +kernel
  refine codeAny_call_generator a.room (f₂.wd.base _ _ ho) hd k2 k3 hbody (hcode.keeps f₂.wd.base) ?_
  show wpAny _ _ (bindArgs fd ⟨vs, []⟩) _ _ _
  rw [hbind vs (by rw [hr.length]; rfl)]
  refine wpAny_pure (newEnv_ok fun L pre h' m => ?_)
  rw [hclo, hgl, hbl]
  have f₀ := m.fn (own := No) (env := newEnv fd.scope L mainGlobals (pre ++ []) (fd.qualname ++ ".<locals>.") (some 71) fd.code none builtinsNs) (f₂.wd.weak fun _ => False.elim) k1 k2 rfl rfl rfl rfl (List.append_nil _) k4
  have hr' : Reps h' (fun b => No b ∨ (b = L ∨ preA pre b)) [.str x] vs := hr.atoms rfl
  refine bot_mono (storeAll_ok (F := { env := newEnv fd.scope L mainGlobals (pre ++ []) (fd.qualname ++ ".<locals>.") (some 71) fd.code none builtinsNs, nm := fd.scope.names, own := fun b => No b ∨ (b = L ∨ preA pre b), mt := fun b => b = L ∨ preA pre b, ret := No }) ["addr"] [.str x] vs [] { s₂ with heap := h' } (by
    show ((["addr"] : List Str).all fun x => fd.scope.names.lookup x == some .local || fd.scope.names.lookup x == some .cell) = true
    rw [hsc]; decide +kernel) f₀ hr' rfl) fun _ s₃ ⟨y₃, f₃⟩ => ?_
  have hd' : f₃.wd.base = f₃.wd.base := rfl
  refine ⟨G.ok.lim.keeps fun b o e => f₃.wd.base b o e, ?_⟩
  have y₄ : ∀ {mt : Own} {o : Obj} {gs : GenState}, gs.bare = true → Step mt s₃ { s₃ with gens := s₃.gens.push gs, toks := s₃.toks + 1 + 1, heap := s₃.heap.push o } := fun hb =>
    ⟨fun b o _ e => Heap.get?_push_of_some _ e, fun b o e => ⟨o, Heap.get?_push_of_some _ e⟩, rfl, fun i z h => by
      show (s₃.gens.push _)[i]? = _
      have hi := (Array.getElem?_eq_some_iff.mp h).1
      rw [Array.getElem?_push_lt hi, ← Array.getElem?_eq_getElem hi]; exact h, fun h => h.push hb, by show s₃.toks ≤ s₃.toks + 1 + 1; omega⟩
  have nw : ∀ b, (b = L ∨ preA pre b) → s.heap.get? b = none := fun b hb => by
    cases z : s.heap.get? b with
    | none => rfl
    | some o => have := (y.trans y₂).all _ _ z; rw [m.fresh hb] at this; cases this
  have na : s.heap.get? s₃.heap.objs.size = none := by
    cases z : s.heap.get? s₃.heap.objs.size with
    | none => rfl
    | some o =>
      obtain ⟨o', z'⟩ := y₃.alive _ o (m.keep _ _ ((y.trans y₂).all _ _ z))
      rw [fresh_none] at z'; cases z'
  have all : Step No s { s₃ with gens := s₃.gens.push (.fresh (.func (bodyOf 9) (newEnv fd.scope L mainGlobals (pre ++ []) (fd.qualname ++ ".<locals>.") (some 71) fd.code none builtinsNs))), toks := s₃.toks + 1 + 1, heap := s₃.heap.push { cls := .type "generator", data := .fields #[.int s₃.gens.size 0, .str fd.name s₃.toks, .str fd.qualname (s₃.toks + 1)] } } :=
    ((y.trans y₂).trans (.ext (t := s₂.toks) m.keep)).drop (y₃.trans (y₄ rfl)) fun b o _ e q => by rw [nw b q] at e; cases e
  have hg : Heap.IsGen (s₃.heap.push { cls := .type "generator", data := .fields #[.int s₃.gens.size 0, .str fd.name s₃.toks, .str fd.qualname (s₃.toks + 1)] }) s₃.heap.objs.size s₃.gens.size := ⟨_, _, _, Heap.get?_push_size _ rfl, rfl, rfl, rfl⟩
  have isL : ∀ b, (No b ∨ (b = L ∨ preA pre b)) → b = L := fun b hb => by
    rcases hb with hb | hb | ⟨z, hb⟩
    · exact hb.elim
    · exact hb
    · exact absurd rfl (k5 _ (m.pre1 _ _ hb).1)
  refine wpAny_pyIter_gen hg ⟨_, Zs s, (· = s₃.gens.size), _, all, rfl, fun b h => h, fun i hi => ?_, IsIt.gen G.ok (esc_start G (F := { env := newEnv fd.scope L mainGlobals (pre ++ []) (fd.qualname ++ ".<locals>.") (some 71) fd.code none builtinsNs, nm := fd.scope.names, own := fun b => No b ∨ (b = L ∨ preA pre b), mt := fun b => b = L ∨ preA pre b, ret := No }) (by rw [hsc]) hx),
    { gen := hg, na := f.wd.off na, an := f₃.wd.off fresh_none, nm := by rw [hsc], ho := isL, nol := fun b hb => f.wd.off (nw b (hb.resolve_left id)), hz := fun b hb => nw b (hb.resolve_left id), al := fun b o e => ⟨o, all.all b o e⟩, ob := f.wd.nown }, .inl ⟨?_, ?_, rfl⟩⟩
  · subst hi
    cases z : s.gens[s₃.gens.size]? with
    | none => rfl
    | some w =>
      have := y₃.gens _ _ ((y.trans y₂).gens _ _ z)
      rw [Array.getElem?_eq_none (Nat.le_refl _)] at this; cases this
  · show (s₃.gens.push _)[s₃.gens.size]? = _
    rw [Array.getElem?_push_size]
  · exact f₃.step (y₄ rfl)
end
section
variable {C : Cx} {n : Nat} {nm : Names} {Γ : Gam}
local macro_rules | `(tactic| walk_at "cm") => `(tactic| with_reducible exact Cmp.nins)
structure StQ where
  st : Int
  op : Option Int
  res : List Str
noncomputable def opD : Option Int → D
  | none => .none
  | some i => .int i
noncomputable def stepQ (x : Str) (i : Nat) (c : Nat) (q : StQ) : StQ :=
  bif c == 34 then (match q.op with
    | none => { q with op := some i }
    | some o => ⟨i + 1, none, bif q.st != o then q.res ++ [cutZ x (some q.st) (some o)] else q.res⟩) else q
noncomputable def runQ (x : Str) : Nat → List Nat → StQ → StQ
  | _, [], q => q
  | i, c :: cs, q => runQ x (i + 1) cs (stepQ x i c q)
noncomputable def endQ (x : Str) (q : StQ) : List Str := bif decide (q.st < x.length) then q.res ++ [cutZ x (some q.st) none] else q.res
noncomputable def finQ (x : Str) : List Str := endQ x (runQ x 0 x.cps.toList ⟨0, none, []⟩)
noncomputable def stripF (x : Str) : Str := bif Txt.contains x ⟨#[34]⟩ then Txt.join ⟨#[]⟩ (finQ x) else x
theorem eqc (c k : Nat) : eqD (.str ⟨#[c]⟩) (.str ⟨#[k]⟩) = (c == k) := by
  show ((⟨#[c]⟩ : Str) == ⟨#[k]⟩) = (c == k)
  by_cases h : c = k
  · subst h; simp
  · rw [beq_eq_false_iff_ne.mpr h, beq_eq_false_iff_ne.mpr]
    intro e
    have h' : (#[c] : Array Nat) = #[k] := congrArg Str.cps e
    exact h (by simpa using h')
theorem cutZ_len {x : Str} {i j : Option Int} : (cutZ x i j).length ≤ x.length := by
  unfold cutZ
  split
  · exact Nat.le_refl _
  · show (((Builtin.Str.strSliceIndices i j 1 x.length).filterMap (x.cps[·]?)).toArray).size ≤ _
    rw [List.size_toArray]
    refine Nat.le_trans (List.length_filterMap_le _ _) ?_
    unfold Builtin.Str.strSliceIndices
    refine sliceRange_length_le _ _ _ _ (fun _ => ⟨?_, ?_⟩) (fun h => absurd (by decide) h)
    · cases i with
      | none => simp
      | some i => simp only [gt_iff_lt, Int.zero_lt_one, if_true]; omega
    · cases j with
      | none => simp
      | some i => simp only [gt_iff_lt, Int.zero_lt_one, if_true]; omega
theorem strip_fn (G : Gl C) (hf : IsFn C 78 ["addr"] (bodyOf 10) (scOf 10)) (hi : IsFn C 71 ["addr"] (bodyOf 9) (scOf 9)) {x : Str} (hx : ∀ c ∈ x.cps.toList, c ≠ 92) (hz : x.length ≤ 1000) (hj : JoinOk ⟨#[]⟩ (finQ x) = true) :
    Fn C 6 78 [.str x] (.str (stripF x)) := by
  have hz2 : x.length < 2 ^ 62 := Nat.lt_of_le_of_lt hz (by decide)
  have cz : ∀ {i j}, (cutZ x i j).length ≤ sizeLine := fun {i j} => Nat.le_trans cutZ_len (Nat.le_trans hz (by decide))
  refine Fn.intro G.ok hf (by decide +kernel) rfl ?_
  simp only [psi, pushes]
  walk_at "wh"
  refine Ex.ite (c := !Txt.contains x ⟨#[34]⟩) ?_ (fun h1 => ?_) (fun h1 => ?_)
  · (with_reducible apply Tst.to)
    · walk_at "ts"
    · rfl
  · walk_at "wh"
    walk_at "ret"
    unfold stripF
    rw [Bool.not_eq_true'] at h1
    rw [h1]; rfl
  · have hs : stripF x = Txt.join ⟨#[]⟩ (finQ x) := by
      unfold stripF
      rw [Bool.not_eq_false'] at h1
      rw [h1]; rfl
    walk_at "wh"
    walk_at "wh"
    walk_at "asg"
    walk_at "wh"
    walk_at "asg"
    (with_reducible apply Ex.new)
    · exact fun _ _ h => h
    · (with_reducible apply EvN.lst)
      · walk_at "evs"
      · exact Nat.zero_le _
    · decide +kernel
    rotate_left
    · walk_at "sw"
    intro a
    refine Ex.for_ (items := itmL 0 x.cps.toList) (fun l Γ I => ∃ (cs : List Nat) (i : Nat) (q : StQ), l = itmL i cs ∧ endQ x (runQ x i cs q) = finQ x ∧ q.res.length ≤ i ∧ i + cs.length ≤ 1000 ∧ I = Bx a (q.res.map .str) ∧
        Γ = ([("result", .raw (.ref a)), ("open_pos", opD q.op), ("start", .int q.st), ("addr", .str x)] : Gam)) ?_ ⟨x.cps.toList, 0, ⟨0, none, []⟩, rfl, rfl, Nat.le_refl _, by rw [Nat.zero_add]; exact hz, rfl, rfl⟩ ?_ ?_ ?_
    · (with_reducible apply ItE.esc G hi)
      · walk_at "nm"
      · walk_at "evs"
      · exact fun _ => rfl
      · exact hx
    · rintro d l Γ I ⟨cs, i, q, e1, e2, e3, e4, rfl, rfl⟩
      cases cs with
      | nil => cases e1
      | cons c cs =>
        cases e1
        obtain ⟨st, op, res⟩ := q
        have e3' : res.length ≤ i := e3
        have e4' : i + (cs.length + 1) ≤ 1000 := e4
        refine ⟨([("ch", .str ⟨#[c]⟩), ("pos", .int i), ("result", .raw (.ref a)), ("open_pos", opD op), ("start", .int st), ("addr", .str x)] : Gam), ?_, ?_⟩
        · walk_at "asn"
        · refine Ex.ite (c := c == 34) ?_ (fun h1 => ?_) (fun h1 => ?_)
          · (with_reducible apply Tst.to)
            · walk_at "ts"
            · exact eqc _ 34
          · cases op with
            | none =>
              simp only [opD]
              walk_at "wh"
              refine Ex.ite (c := true) ?_ (fun _ => ?_) (fun h => by cases h)
              · (with_reducible apply Tst.to)
                · walk_at "ts"
                · rfl
              walk_at "wh"
              walk_at "wh"
              walk_at "asg"
              refine Ex.nil ⟨([("result", .raw (.ref a)), ("open_pos", .int i), ("start", .int st), ("addr", .str x)] : Gam), ⟨cs, i + 1, ⟨st, some i, res⟩, rfl, ?_, Nat.le_succ_of_le e3', by omega, rfl, rfl⟩, by walk_at "sub"⟩
              rw [← e2]
              show _ = endQ x (runQ x (i + 1) cs (stepQ x i c _))
              unfold stepQ; rw [h1]; rfl
            | some o =>
              have e2' : endQ x (runQ x (i + 1) cs ⟨i + 1, none, bif st != o then res ++ [cutZ x (some st) (some o)] else res⟩) = finQ x := by
                rw [← e2]
                show _ = endQ x (runQ x (i + 1) cs (stepQ x i c _))
                unfold stepQ; rw [h1]; rfl
              simp only [opD]
              walk_at "wh"
              refine Ex.ite (c := false) ?_ (fun h => by cases h) (fun _ => ?_)
              · (with_reducible apply Tst.to)
                · walk_at "ts"
                · rfl
              walk_at "wh"
              refine Ex.ite (c := st != o) ?_ (fun h2 => ?_) (fun h2 => ?_)
              · (with_reducible apply Tst.to)
                · walk_at "ts"
                · rfl
              · rw [h2] at e2'
                walk_at "wh"
                (with_reducible apply Ex.app)
                · walk_at "lk"
                · decide +kernel
                · decide +kernel
                · refine Ev.cuts (i := some st) (j := some o) (by walk_at "ev") (.some (by walk_at "ev")) (.some (by walk_at "ev")) cutZ_made cz (fun _ _ => rfl)
                · rw [List.length_map]; exact Nat.le_trans e3' (Nat.le_trans (m := 1000) (by omega) (by decide))
                · walk_at "wh"
                  walk_at "asg"
                  walk_at "wh"
                  walk_at "asg"
                  refine Ex.nil ⟨([("result", .raw (.ref a)), ("open_pos", .none), ("start", .int (i + 1)), ("addr", .str x)] : Gam), ⟨cs, i + 1, ⟨i + 1, none, res ++ [cutZ x (some st) (some o)]⟩, rfl, e2', ?_, by omega, ?_, rfl⟩, by walk_at "sub"⟩
                  · rw [List.length_append]; exact Nat.succ_le_succ e3'
                  · rw [List.map_append]; rfl
                · exact fun _ => rfl
                · exact fun _ => ⟨_, rfl⟩
              · rw [h2] at e2'
                walk_at "wh"
                walk_at "wh"
                walk_at "asg"
                walk_at "wh"
                walk_at "asg"
                exact Ex.nil ⟨([("result", .raw (.ref a)), ("open_pos", .none), ("start", .int (i + 1)), ("addr", .str x)] : Gam), ⟨cs, i + 1, ⟨i + 1, none, res⟩, rfl, e2', Nat.le_succ_of_le e3', by omega, rfl, rfl⟩, by walk_at "sub"⟩
          · walk_at "wh"
            refine Ex.nil ⟨([("result", .raw (.ref a)), ("open_pos", opD op), ("start", .int st), ("addr", .str x)] : Gam), ⟨cs, i + 1, ⟨st, op, res⟩, rfl, ?_, Nat.le_succ_of_le e3', by omega, rfl, rfl⟩, by walk_at "sub"⟩
            rw [← e2]
            show _ = endQ x (runQ x (i + 1) cs (stepQ x i c _))
            unfold stepQ; rw [h1]; rfl
    · rintro Γ I ⟨cs, i, q, e1, e2, e3, e4, rfl, rfl⟩
      cases cs with
      | cons c cs => cases e1
      | nil =>
        obtain ⟨st, op, res⟩ := q
        have e2' : (bif decide (st < x.length) then res ++ [cutZ x (some st) none] else res) = finQ x := e2
        refine Ex.ite (c := decide (st < x.length)) ?_ (fun h2 => ?_) (fun h2 => ?_)
        · (with_reducible apply Tst.to)
          · walk_at "ts"
          · rfl
        · rw [h2] at e2'
          walk_at "wh"
          (with_reducible apply Ex.app)
          · walk_at "lk"
          · decide +kernel
          · decide +kernel
          · refine Ev.cuts (i := some st) (j := none) (by walk_at "ev") (.some (by walk_at "ev")) .none cutZ_made cz (fun _ _ => rfl)
          · rw [List.length_map]; exact Nat.le_trans e3 (Nat.le_trans (m := 1000) (by omega) (by decide))
          · rw [show res.map D.str ++ [D.str (cutZ x (some st) none)] = (finQ x).map D.str from by rw [← e2']; simp]
            refine Ex.retjoin (sep := ("" : Str)) (by walk_at "ev") (by walk_at "ev") hj hs.symm rfl (fun _ => ⟨_, rfl⟩) (fun _ => rfl) (fun _ => rfl)
          · exact fun _ => rfl
          · exact fun _ => ⟨_, rfl⟩
        · rw [h2] at e2'
          walk_at "wh"
          rw [show res = finQ x from e2']
          refine Ex.retjoin (sep := ("" : Str)) (by walk_at "ev") (by walk_at "ev") hj hs.symm rfl (fun _ => ⟨_, rfl⟩) (fun _ => rfl) (fun _ => rfl)
    · exact fun _ _ => rfl
end
section
variable {C : Cx} {n : Nat} {nm : Names} {Γ : Gam}
noncomputable def chk : Int → List Nat → Bool
  | k, [] => k == 0
  | k, c :: cs => bif c == 40 then chk (k + 1) cs else bif c == 41 then (bif decide (k - 1 < 0) then false else chk (k - 1) cs) else chk k cs
noncomputable def checkF (x : Str) : Bool := chk 0 (stripF x).cps.toList
theorem check_fn (G : Gl C) (hf : IsFn C 85 ["addr"] (bodyOf 11) (scOf 11)) (h1 : IsFn C 78 ["addr"] (bodyOf 10) (scOf 10)) (hi : IsFn C 71 ["addr"] (bodyOf 9) (scOf 9)) {x : Str} (hx : ∀ c ∈ x.cps.toList, c ≠ 92) (hz : x.length ≤ 1000) (hj : JoinOk ⟨#[]⟩ (finQ x) = true) (hy : ∀ c ∈ (stripF x).cps.toList, c ≠ 92) :
    Fn C 7 85 [.str x] (.bool (checkF x)) := by
  refine Fn.intro G.ok hf (by decide +kernel) rfl ?_
  simp only [psi, pushes]
  walk_at "wh"
  (with_reducible apply Ex.asg)
  · (with_reducible apply Ev.calF)
    · walk_at "nm"
    · walk_at "evs"
    · exact h1
    · exact strip_fn G h1 hi hx hz hj
    · decide
    · exact fun _ => rfl
  · exact Or.inl (by decide +kernel)
  rotate_left
  · walk_at "sw"
  walk_at "asg"
  refine Ex.sub (Γ' := [("opens", .int 0), ("addr", .str (stripF x))]) ?_ (by walk_at "sub")
  refine Ex.for_ (items := itmL 0 (stripF x).cps.toList) (fun l Γ I => ∃ (cs : List Nat) (i : Nat) (k : Int), l = itmL i cs ∧ chk k cs = checkF x ∧ I = noB ∧ Γ = ([("opens", .int k), ("addr", .str (stripF x))] : Gam)) ?_ ⟨_, 0, 0, rfl, rfl, rfl, rfl⟩ ?_ ?_ ?_
  · (with_reducible apply ItE.esc G hi)
    · walk_at "nm"
    · walk_at "evs"
    · exact fun _ => rfl
    · exact hy
  · rintro d l Γ I ⟨cs, i, k, e1, e2, rfl, rfl⟩
    cases cs with
    | nil => cases e1
    | cons c cs =>
      cases e1
      refine ⟨([("ch", .str ⟨#[c]⟩), ("pos", .int i), ("opens", .int k), ("addr", .str (stripF x))] : Gam), ?_, ?_⟩
      · walk_at "asn"
      · have e2' : (bif c == 40 then chk (k + 1) cs else bif c == 41 then (bif decide (k - 1 < 0) then false else chk (k - 1) cs) else chk k cs) = checkF x := e2
        refine Ex.ite (c := c == 40) ?_ (fun h1 => ?_) (fun h1 => ?_)
        · (with_reducible apply Tst.to)
          · walk_at "ts"
          · exact eqc _ 40
        · rw [h1] at e2'
          walk_at "wh"
          (with_reducible apply Ex.aug)
          · walk_at "lk"
          · decide +kernel
          · walk_at "ev"
          · exact Iop.addi
          · refine Ex.nil ⟨([("opens", .int (k + 1)), ("addr", .str (stripF x))] : Gam), ⟨cs, i + 1, k + 1, rfl, e2', rfl, rfl⟩, by walk_at "sub"⟩
        · rw [h1] at e2'
          walk_at "wh"
          refine Ex.ite (c := c == 41) ?_ (fun h2 => ?_) (fun h2 => ?_)
          · (with_reducible apply Tst.to)
            · walk_at "ts"
            · exact eqc _ 41
          · rw [h2] at e2'
            walk_at "wh"
            (with_reducible apply Ex.aug)
            · walk_at "lk"
            · decide +kernel
            · walk_at "ev"
            · exact Iop.subi
            · walk_at "wh"
              refine Ex.ite (c := decide (k - 1 < 0)) ?_ (fun h3 => ?_) (fun h3 => ?_)
              · (with_reducible apply Tst.to)
                · walk_at "ts"
                · rfl
              · rw [h3] at e2'
                walk_at "wh"
                walk_at "ret"
                exact congrArg D.bool e2'
              · rw [h3] at e2'
                walk_at "wh"
                exact Ex.nil ⟨([("opens", .int (k - 1)), ("addr", .str (stripF x))] : Gam), ⟨cs, i + 1, k - 1, rfl, e2', rfl, rfl⟩, by walk_at "sub"⟩
          · rw [h2] at e2'
            walk_at "wh"
            exact Ex.nil ⟨([("opens", .int k), ("addr", .str (stripF x))] : Gam), ⟨cs, i + 1, k, rfl, e2', rfl, rfl⟩, by walk_at "sub"⟩
  · rintro Γ I ⟨cs, i, k, e1, e2, rfl, rfl⟩
    cases cs with
    | cons c cs => cases e1
    | nil =>
      walk_at "ret"
      exact congrArg D.bool e2
  · exact fun _ _ => rfl
end
section
variable {C : Cx} {n : Nat} {nm : Names} {Γ : Gam}
noncomputable abbrev rngF (j k : Int) : List Int := (List.range (k - j).toNat).map fun (i : Nat) => j + (i : Int)
theorem mem_rngF {j k x : Int} (h : x ∈ rngF j k) : j ≤ x ∧ x < k := by
  obtain ⟨i, hi, rfl⟩ := List.mem_map.mp h
  have := List.mem_range.mp hi
  omega
theorem ItE.rngF {p p' : Pos} {e e' : Expr} {j k : Int} (hx : Ev C n nm Γ (.Name ("range" : Str) p') (.raw (.type "range"))) (h : Evs C n nm Γ [e, e'] [.int j, .int k]) (hj : -1000 < j ∧ j < 1000) (hk : -1000 < k ∧ k < 1000)
    (he : ∀ env, starEach [e, e'] env = (false, eval e env) :: starEach [e'] env) (hp : ∀ env, (backTo p (starEach [e'] env)).any (·.1) = false) : ItE C n nm Γ (.Call (.Name ("range" : Str) p') [e, e'] [] p) ((Mine.rngF j k).map D.int) := by
  have := ItE.rng2 (p := p) hx h (by omega) (by omega) (by omega) (by omega) he hp
  refine ItE.to this ?_
  rw [upFrom_eq, List.map_map]; rfl
noncomputable def at2 (T : List (List Int)) (i j : Int) : Int := (T.getD i.toNat []).getD j.toNat 0
noncomputable def stepT (ls : List Int) (rows : List (List Int)) (k : Int) : List (List Int) := rows.set (tie k).1.toNat ((rows.getD (tie k).1.toNat []).set (tie k).2.toNat (ls.getD k.toNat 0))
noncomputable def tabOf (ls : List Int) : List (List Int) := (rng 21).foldl (stepT ls) (List.replicate 7 (List.replicate 7 3))
noncomputable def Sq7 (T : List (List Int)) : Prop := T.length = 7 ∧ ∀ r ∈ T, r.length = 7
theorem Sq7.row {T : List (List Int)} (h : Sq7 T) {i : Int} (h0 : 0 ≤ i) (h1 : i < 7) : T[i.toNat]? = some (T.getD i.toNat []) ∧ (T.getD i.toNat []).length = 7 := by
  have hl : i.toNat < T.length := by rw [h.1]; omega
  rw [List.getD_eq_getElem?_getD, List.getElem?_eq_getElem hl]
  exact ⟨rfl, h.2 _ (List.getElem_mem hl)⟩
theorem Sq7.step {T : List (List Int)} (h : Sq7 T) (ls : List Int) {k : Int} (k0 : 0 ≤ k) (k1 : k < 21) : Sq7 (stepT ls T k) := by
  obtain ⟨b0, b1, b2⟩ := tie_in k0 k1
  refine ⟨by rw [stepT, List.length_set]; exact h.1, fun r hr => ?_⟩
  rcases List.mem_or_eq_of_mem_set hr with hr | rfl
  · exact h.2 r hr
  · rw [List.length_set]; exact (h.row b0 (by omega)).2
theorem Sq7.cell {T : List (List Int)} (h : Sq7 T) {i j : Int} (i0 : 0 ≤ i) (i1 : i < 7) (j0 : 0 ≤ j) (j1 : j < 7) : (T.map fun r => D.lst (Ints r))[i.toNat]? = some (.lst (Ints (T.getD i.toNat []))) ∧ (Ints (T.getD i.toNat []))[j.toNat]? = some (.int (at2 T i j)) := by
  obtain ⟨h1, h2⟩ := h.row i0 i1
  refine ⟨by rw [List.getElem?_map, h1]; rfl, ?_⟩
  have hl : j.toNat < (T.getD i.toNat []).length := by omega
  rw [Ints, List.getElem?_map, List.getElem?_eq_getElem hl, at2, List.getD_eq_getElem?_getD (l := T.getD _ _), List.getElem?_eq_getElem hl]; rfl
noncomputable def q4 (T : List (List Int)) (a b c d : Int) : Int := (bif at2 T a b == at2 T c d then 1 else 0) + (bif at2 T a d == at2 T b c then 1 else 0)
noncomputable def sumD (T : List (List Int)) (a b c : Int) (n : Int) (ds : List Int) : Int := ds.foldl (fun n d => n + q4 T a b c d) n
noncomputable def sumC (T : List (List Int)) (a b : Int) (n : Int) (cs : List Int) : Int := cs.foldl (fun n c => sumD T a b c n (rngF (c + 1) 7)) n
noncomputable def sumB (T : List (List Int)) (a : Int) (n : Int) (bs : List Int) : Int := bs.foldl (fun n b => sumC T a b n (rngF (b + 1) 7)) n
noncomputable def sumA (T : List (List Int)) (n : Int) (as : List Int) : Int := as.foldl (fun n a => sumB T a n (rngF (a + 1) 7)) n
noncomputable def foursT (T : List (List Int)) : Int := sumA T 0 (rng 7)
noncomputable def foursOf (ls : List Int) : Int := foursT (tabOf ls)
theorem cell_ev {x : Str} {p1 p2 p3 : Pos} {i j : Expr} {T : List (List Int)} {a b : Int} (hT : Sq7 T) (ht : Ev C (n + 1) nm Γ (.Name x p1) (.lst (T.map fun r => D.lst (Ints r)))) (hi : Ev C (n + 1) nm Γ i (.int a)) (hj : Ev C (n + 1) nm Γ j (.int b)) (a0 : 0 ≤ a ∧ a < 7) (b0 : 0 ≤ b ∧ b < 7)
    (h1 : ∀ o j, subscripted i false o j = operate [o, j] (getItem o j)) (h2 : ∀ o i, subscripted j false o i = operate [o, i] (getItem o i)) : Ev C (n + 1) nm Γ (.Subscript (.Subscript (.Name x p1) i p2) j p3) (.int (at2 T a b)) := by
  obtain ⟨e1, e2⟩ := hT.cell a0.1 a0.2 b0.1 b0.2
  have l1 : (T.map fun r => D.lst (Ints r)).length < 2 ^ 62 := by rw [List.length_map, hT.1]; decide
  have l2 : (Ints (T.getD a.toNat [])).length < 2 ^ 62 := by rw [List.length_map, (hT.row a0.1 a0.2).2]; decide
  exact Ev.subl (Ev.subl ht hi a0.1 e1 l1 h1) hj b0.1 e2 l2 h2
theorem fours_fn (G : Gl C) (hf : IsFn C 124 ["ends", "lights"] (bodyOf 19) (scOf 19)) {ls : List Int} (hl : ls.length = 21) : Fn C 4 124 [.lst (ends21.map t2), .lst (Ints ls)] (.int (foursOf ls)) := by
  refine Fn.intro G.ok hf (by decide +kernel) rfl ?_
  simp only [psi, pushes]
  unfold foursOf
  have iz : (ends21.map t2).length < 2 ^ 62 := by decide
  have lz : (Ints ls).length < 2 ^ 62 := by simp [hl]
  walk_at "wh"
  (with_reducible apply Ex.tbl (row := List.replicate 7 3) (Γ' := []))
  · exact fun _ _ h => h
  · walk_at "rngn"
  · decide +kernel
  · walk_at "cap"
  · intro d hd
    obtain ⟨k, hk, rfl⟩ := List.mem_map.mp hd
    refine ⟨[("a", .int k)], by walk_at "asn", by walk_at "sub", ?_⟩
    exact EvN.mull (p' := ⟨0, 0, 0, 0⟩) (x := 7) (d := .int 3) (by decide) (by decide) (by walk_at "ev") (by walk_at "ev")
  · exact Nat.le_of_ble_eq_true rfl
  · exact fun _ _ _ => rfl
  · exact fun _ _ => rfl
  · decide +kernel
  · rfl
  · walk_at "swc"
  intro a
  refine Ex.for_ (items := (rng 21).map D.int) (fun l Γ I => ∃ (ks : List Int) (T : List (List Int)), l = ks.map D.int ∧ (∀ k ∈ ks, 0 ≤ k ∧ k < 21) ∧ ks.foldl (stepT ls) T = tabOf ls ∧ Sq7 T ∧ I = Tx a T ∧
      Γ = ([("table", .raw (.ref a)), ("lights", .lst (Ints ls)), ("ends", .lst (ends21.map t2))] : Gam)) (by walk_at "rngn") ⟨rng 21, List.replicate 7 (List.replicate 7 3), rfl, fun k hk => mem_rng hk, rfl, by refine ⟨rfl, ?_⟩; decide, rfl, rfl⟩ ?_ ?_ ?_
  · rintro d l Γ I ⟨ks, T, e1, e2, e3, e4, rfl, rfl⟩
    cases ks with
    | nil => cases e1
    | cons k ks =>
      cases e1
      obtain ⟨k0, k1⟩ := e2 k (.head _)
      obtain ⟨b0, b1, b2⟩ := tie_in k0 k1
      have i1 := tie_at k0 k1
      have i2 : (Ints ls)[k.toNat]? = some (D.int (ls.getD k.toNat 0)) := by
        have hlt : k.toNat < ls.length := by omega
        rw [List.getElem?_map, List.getD_eq_getElem?_getD, List.getElem?_eq_getElem hlt]; rfl
      obtain ⟨r1, r2⟩ := e4.row b0 (by omega)
      refine ⟨([("k", .int k), ("table", .raw (.ref a)), ("lights", .lst (Ints ls)), ("ends", .lst (ends21.map t2))] : Gam), by walk_at "asn", ?_⟩
      refine Ex.seti2 (i := (tie k).1) (j := (tie k).2) (v := ls.getD k.toNat 0) (by walk_at "lk") (by decide +kernel) (by decide +kernel) (by walk_at "ev") ?_ ?_ b0 r1 (by rw [e4.1]; decide) (by omega) (by rw [r2]; omega) (by rw [r2]; decide) ?_ (fun _ => rfl) (fun _ _ => rfl)
      · walk_at "ev"
      · walk_at "ev"
      · exact Ex.nil ⟨([("table", .raw (.ref a)), ("lights", .lst (Ints ls)), ("ends", .lst (ends21.map t2))] : Gam), ⟨ks, stepT ls T k, rfl, fun k hk => e2 k (.tail _ hk), e3, e4.step ls k0 k1, rfl, rfl⟩, by walk_at "sub"⟩
  · rintro Γ I ⟨ks, T, e1, e2, e3, e4, rfl, rfl⟩
    cases ks with
    | cons k ks => cases e1
    | nil =>
      rw [List.foldl_nil] at e3
      rw [e3] at e4
      rw [e3]
      clear e3
      generalize tabOf ls = T' at *
      (with_reducible apply Ex.freeze)
      · exact fun _ _ h => h
      · walk_at "lk"
      · decide +kernel
      refine Ex.sub (Γ' := [("table", .lst (T'.map fun r => D.lst (Ints r)))]) ?_ (by walk_at "sub")
      walk_at "asg"
      refine Ex.sub (Γ' := [("count", .int 0), ("table", .lst (T'.map fun r => D.lst (Ints r)))]) ?_ (by walk_at "sub")
      refine Ex.for_ (items := (rng 7).map D.int) (fun l Γ I => ∃ (as : List Int) (m : Int), l = as.map D.int ∧ (∀ a ∈ as, 0 ≤ a ∧ a < 7) ∧ sumA T' m as = foursT T' ∧ I = noB ∧
        Γ = ([("count", .int m), ("table", .lst (T'.map fun r => D.lst (Ints r)))] : Gam)) (by walk_at "rngn") ⟨rng 7, 0, rfl, fun k hk => mem_rng hk, rfl, rfl, rfl⟩ ?_ ?_ (fun _ _ => rfl)
      · rintro d l Γ I ⟨as, m, e1, e2, e3, rfl, rfl⟩
        cases as with
        | nil => cases e1
        | cons a as =>
          cases e1
          obtain ⟨a0, a1⟩ := e2 a (.head _)
          have e3 : sumA T' (sumB T' a m (rngF (a + 1) 7)) as = foursT T' := e3
          refine ⟨([("a", .int a), ("count", .int m), ("table", .lst (T'.map fun r => D.lst (Ints r)))] : Gam), by walk_at "asn", ?_⟩
          refine Ex.for_ (items := (rngF (a + 1) 7).map D.int) (fun l Γ I => ∃ (bs : List Int) (m' : Int), l = bs.map D.int ∧ (∀ b ∈ bs, a + 1 ≤ b ∧ b < 7) ∧ sumB T' a m' bs = sumB T' a m (rngF (a + 1) 7) ∧ I = noB ∧
            Γ = ([("a", .int a), ("count", .int m'), ("table", .lst (T'.map fun r => D.lst (Ints r)))] : Gam)) ?_ ⟨_, m, rfl, fun k hk => mem_rngF hk, rfl, rfl, rfl⟩ ?_ ?_ (fun _ _ => rfl)
          · (with_reducible apply ItE.rngF)
            · walk_at "nm"
            · walk_at "evs"
            · constructor <;> omega
            · decide
            · exact fun _ => rfl
            · exact fun _ => rfl
          · rintro d l Γ I ⟨bs, m', f1, f2, f3, rfl, rfl⟩
            cases bs with
            | nil => cases f1
            | cons b bs =>
              cases f1
              obtain ⟨b0, b1⟩ := f2 b (.head _)
              have f3 : sumB T' a (sumC T' a b m' (rngF (b + 1) 7)) bs = sumB T' a m (rngF (a + 1) 7) := f3
              refine ⟨([("b", .int b), ("a", .int a), ("count", .int m'), ("table", .lst (T'.map fun r => D.lst (Ints r)))] : Gam), by walk_at "asn", ?_⟩
              refine Ex.for_ (items := (rngF (b + 1) 7).map D.int) (fun l Γ I => ∃ (cs : List Int) (m2 : Int), l = cs.map D.int ∧ (∀ c ∈ cs, b + 1 ≤ c ∧ c < 7) ∧ sumC T' a b m2 cs = sumC T' a b m' (rngF (b + 1) 7) ∧ I = noB ∧
                Γ = ([("b", .int b), ("a", .int a), ("count", .int m2), ("table", .lst (T'.map fun r => D.lst (Ints r)))] : Gam)) ?_ ⟨_, m', rfl, fun k hk => mem_rngF hk, rfl, rfl, rfl⟩ ?_ ?_ (fun _ _ => rfl)
              · (with_reducible apply ItE.rngF)
                · walk_at "nm"
                · walk_at "evs"
                · constructor <;> omega
                · decide
                · exact fun _ => rfl
                · exact fun _ => rfl
              · rintro d l Γ I ⟨cs, m2, g1, g2, g3, rfl, rfl⟩
                cases cs with
                | nil => cases g1
                | cons c cs =>
                  cases g1
                  obtain ⟨c0, c1⟩ := g2 c (.head _)
                  have g3 : sumC T' a b (sumD T' a b c m2 (rngF (c + 1) 7)) cs = sumC T' a b m' (rngF (b + 1) 7) := g3
                  refine ⟨([("c", .int c), ("b", .int b), ("a", .int a), ("count", .int m2), ("table", .lst (T'.map fun r => D.lst (Ints r)))] : Gam), by walk_at "asn", ?_⟩
                  refine Ex.for_ (items := (rngF (c + 1) 7).map D.int) (fun l Γ I => ∃ (ds : List Int) (m3 : Int), l = ds.map D.int ∧ (∀ d ∈ ds, c + 1 ≤ d ∧ d < 7) ∧ sumD T' a b c m3 ds = sumD T' a b c m2 (rngF (c + 1) 7) ∧ I = noB ∧
                    Γ = ([("c", .int c), ("b", .int b), ("a", .int a), ("count", .int m3), ("table", .lst (T'.map fun r => D.lst (Ints r)))] : Gam)) ?_ ⟨_, m2, rfl, fun k hk => mem_rngF hk, rfl, rfl, rfl⟩ ?_ ?_ (fun _ _ => rfl)
                  · (with_reducible apply ItE.rngF)
                    · walk_at "nm"
                    · walk_at "evs"
                    · constructor <;> omega
                    · decide
                    · exact fun _ => rfl
                    · exact fun _ => rfl
                  · rintro d l Γ I ⟨ds, m3, h1, h2, h3, rfl, rfl⟩
                    cases ds with
                    | nil => cases h1
                    | cons d ds =>
                      cases h1
                      obtain ⟨d0, d1⟩ := h2 d (.head _)
                      have h3 : sumD T' a b c (m3 + q4 T' a b c d) ds = sumD T' a b c m2 (rngF (c + 1) 7) := h3
                      refine ⟨([("d", .int d), ("c", .int c), ("b", .int b), ("a", .int a), ("count", .int m3), ("table", .lst (T'.map fun r => D.lst (Ints r)))] : Gam), by walk_at "asn", ?_⟩
                      refine Ex.ite (c := at2 T' a b == at2 T' c d) (Tst.cmp (cell_ev e4 (by walk_at "nm") (by walk_at "ev") (by walk_at "ev") ⟨by omega, by omega⟩ ⟨by omega, by omega⟩ (fun _ _ => rfl) (fun _ _ => rfl)) (cell_ev e4 (by walk_at "nm") (by walk_at "ev") (by walk_at "ev") ⟨by omega, by omega⟩ ⟨by omega, by omega⟩ (fun _ _ => rfl) (fun _ _ => rfl)) Cmp.eqi rfl) (fun k1 => ?_) (fun k1 => ?_)
                      all_goals
                        unfold q4 at h3
                        rw [k1] at h3
                        walk_at "wh"
                        try
                          (with_reducible apply Ex.aug)
                          · walk_at "lk"
                          · decide +kernel
                          · walk_at "ev"
                          · exact Iop.addi
                        try walk_at "asg"
                        refine Ex.ite (c := at2 T' a d == at2 T' b c) (Tst.cmp (cell_ev e4 (by walk_at "nm") (by walk_at "ev") (by walk_at "ev") ⟨by omega, by omega⟩ ⟨by omega, by omega⟩ (fun _ _ => rfl) (fun _ _ => rfl)) (cell_ev e4 (by walk_at "nm") (by walk_at "ev") (by walk_at "ev") ⟨by omega, by omega⟩ ⟨by omega, by omega⟩ (fun _ _ => rfl) (fun _ _ => rfl)) Cmp.eqi rfl) (fun k2 => ?_) (fun k2 => ?_)
                        all_goals
                          rw [k2] at h3
                          simp only [cond_true, cond_false, Int.add_zero, Int.zero_add] at h3
                          walk_at "wh"
                          try walk_at "asg"
                          first
                            | exact Ex.nil ⟨([("c", .int c), ("b", .int b), ("a", .int a), ("count", .int m3), ("table", .lst (T'.map fun r => D.lst (Ints r)))] : Gam), ⟨ds, m3, rfl, fun d hd => h2 d (.tail _ hd), h3, rfl, rfl⟩, by walk_at "sub"⟩
                            | exact Ex.nil ⟨([("c", .int c), ("b", .int b), ("a", .int a), ("count", .int (m3 + 1)), ("table", .lst (T'.map fun r => D.lst (Ints r)))] : Gam), ⟨ds, m3 + 1, rfl, fun d hd => h2 d (.tail _ hd), h3, rfl, rfl⟩, by walk_at "sub"⟩
                            | exact Ex.nil ⟨([("c", .int c), ("b", .int b), ("a", .int a), ("count", .int (m3 + 1 + 1)), ("table", .lst (T'.map fun r => D.lst (Ints r)))] : Gam), ⟨ds, m3 + 1 + 1, rfl, fun d hd => h2 d (.tail _ hd), by rw [Int.add_assoc]; exact h3, rfl, rfl⟩, by walk_at "sub"⟩
                  · rintro Γ I ⟨ds, m3, h1, h2, h3, rfl, rfl⟩
                    cases ds with
                    | cons d ds => cases h1
                    | nil =>
                      have h3 : m3 = sumD T' a b c m2 (rngF (c + 1) 7) := h3
                      rw [← h3] at g3
                      exact Ex.nil ⟨([("b", .int b), ("a", .int a), ("count", .int m3), ("table", .lst (T'.map fun r => D.lst (Ints r)))] : Gam), ⟨cs, m3, rfl, fun d hd => g2 d (.tail _ hd), g3, rfl, rfl⟩, by walk_at "sub"⟩
              · rintro Γ I ⟨cs, m2, g1, g2, g3, rfl, rfl⟩
                cases cs with
                | cons d ds => cases g1
                | nil =>
                  have g3 : m2 = sumC T' a b m' (rngF (b + 1) 7) := g3
                  rw [← g3] at f3
                  exact Ex.nil ⟨([("a", .int a), ("count", .int m2), ("table", .lst (T'.map fun r => D.lst (Ints r)))] : Gam), ⟨bs, m2, rfl, fun d hd => f2 d (.tail _ hd), f3, rfl, rfl⟩, by walk_at "sub"⟩
          · rintro Γ I ⟨bs, m', f1, f2, f3, rfl, rfl⟩
            cases bs with
            | cons d ds => cases f1
            | nil =>
              have f3 : m' = sumB T' a m (rngF (a + 1) 7) := f3
              rw [← f3] at e3
              exact Ex.nil ⟨([("count", .int m'), ("table", .lst (T'.map fun r => D.lst (Ints r)))] : Gam), ⟨as, m', rfl, fun d hd => e2 d (.tail _ hd), e3, rfl, rfl⟩, by walk_at "sub"⟩
      · rintro Γ I ⟨as, m, e1, e2, e3, rfl, rfl⟩
        cases as with
        | cons a as => cases e1
        | nil =>
          walk_at "ret"
          exact congrArg D.int e3
  · exact fun _ _ => rfl
end
section
variable {C : Cx} {n : Nat} {nm : Names} {Γ : Gam}
noncomputable def sixT : List Str := [⟨#[34, 34, 40, 41]⟩, ⟨#[34, 40, 34, 41]⟩, ⟨#[34, 40, 41, 34]⟩, ⟨#[40, 34, 34, 41]⟩, ⟨#[40, 34, 41, 34]⟩, ⟨#[40, 41, 34, 34]⟩]
noncomputable def textOk (x : Str) : Bool := x.cps.toList.all (· != 92) && (decide (x.length ≤ 1000) && (JoinOk ⟨#[]⟩ (finQ x) && (stripF x).cps.toList.all (· != 92)))
theorem six_ok : sixT.all textOk = true := by decide +kernel
noncomputable def ins (x : Int) : List Int → List Int
  | [] => [x]
  | y :: l => bif decide (x ≤ y) then x :: y :: l else y :: ins x l
noncomputable def isort : List Int → List Int
  | [] => []
  | x :: l => ins x (isort l)
theorem ins_perm (x : Int) : ∀ l, (ins x l).Perm (x :: l)
  | [] => .refl _
  | y :: l => by
    unfold ins
    cases decide (x ≤ y) with
    | true => exact .refl _
    | false => exact ((ins_perm x l).cons y).trans (.swap ..)
theorem isort_perm : ∀ l, (isort l).Perm l
  | [] => .refl _
  | x :: l => (ins_perm x _).trans ((isort_perm l).cons x)
theorem ins_sorted (x : Int) : ∀ {l : List Int}, l.Pairwise (· ≤ ·) → (ins x l).Pairwise (· ≤ ·)
  | [], _ => List.pairwise_singleton ..
  | y :: l, h => by
    unfold ins
    cases hd : decide (x ≤ y) with
    | true =>
      have hxy := of_decide_eq_true hd
      refine List.pairwise_cons.mpr ⟨fun z hz => ?_, h⟩
      rcases List.mem_cons.mp hz with rfl | hz
      · exact hxy
      · exact Int.le_trans hxy ((List.pairwise_cons.mp h).1 z hz)
    | false =>
      have hxy := of_decide_eq_false hd
      obtain ⟨h1, h2⟩ := List.pairwise_cons.mp h
      refine List.pairwise_cons.mpr ⟨fun z hz => ?_, ins_sorted x h2⟩
      rcases List.mem_cons.mp ((ins_perm x l).mem_iff.mp hz) with rfl | hz
      · omega
      · exact h1 z hz
theorem isort_sorted : ∀ l, (isort l).Pairwise (· ≤ ·)
  | [] => .nil
  | x :: l => ins_sorted x (isort_sorted l)
noncomputable def inP (p : Int) (o : Int × Int) : Bool := o.1 == p || o.2 == p
noncomputable def sgn (one other : Int × Int) (p : Int) : Str := bif inP p one then ⟨#[34]⟩ else bif p == other.1 then ⟨#[40]⟩ else ⟨#[41]⟩
noncomputable def textOf (one other : Int × Int) : Str := (isort [one.1, one.2, other.1, other.2]).foldl (fun t p => t ++ sgn one other p) ⟨#[]⟩
noncomputable def disj (one other : Int × Int) : Bool := !inP one.1 other && !inP one.2 other
noncomputable def clr (one other : Int × Int) : Bool := disj one other && checkF (textOf one other)
theorem text_six : ends21.all (fun one => ends21.all fun other => !disj one other || sixT.contains (textOf one other)) = true := by decide +kernel
theorem text_ok {one other : Int × Int} (h1 : one ∈ ends21) (h2 : other ∈ ends21) (hd : disj one other = true) : textOk (textOf one other) = true := by
  have := List.all_eq_true.mp (List.all_eq_true.mp text_six one h1) other h2
  rw [hd] at this
  exact List.all_eq_true.mp six_ok _ (List.contains_iff_mem.mp (by simpa using this))
noncomputable def tsAt (ts : List (Int × Int)) (i : Int) : Int × Int := ts.getD i.toNat (0, 0)
noncomputable def rowFrom (ts : List (Int × Int)) (k : Int) (js : List Int) : List ((Int × Int) × (Int × Int)) := (js.filter fun j => clr (tsAt ts j) (tsAt ts k)).map fun j => (tsAt ts j, tsAt ts k)
noncomputable def rowOf (ts : List (Int × Int)) (k : Int) : List ((Int × Int) × (Int × Int)) := rowFrom ts k (rng k.toNat)
noncomputable def clearOf (ts : List (Int × Int)) : List ((Int × Int) × (Int × Int)) := (rng ts.length).flatMap (rowOf ts)
noncomputable abbrev pr (p : (Int × Int) × (Int × Int)) : D := .tup [t2 p.1, t2 p.2]
theorem rowFrom_cons (ts : List (Int × Int)) (k j : Int) (js : List Int) : rowFrom ts k (j :: js) = (bif clr (tsAt ts j) (tsAt ts k) then [(tsAt ts j, tsAt ts k)] else []) ++ rowFrom ts k js := by
  unfold rowFrom
  rw [List.filter_cons]
  cases clr (tsAt ts j) (tsAt ts k) <;> rfl
theorem flat_len {α β : Type} {f : α → List β} {m : Nat} : ∀ {l : List α}, (∀ x ∈ l, (f x).length ≤ m) → (l.flatMap f).length ≤ l.length * m
  | [], _ => Nat.zero_le _
  | x :: l, h => by
    have h1 := h x (.head _)
    have h2 := flat_len (l := l) fun y hy => h y (.tail _ hy)
    rw [List.flatMap_cons, List.length_append, List.length_cons, Nat.succ_mul]; omega
theorem clearOf_len {ts : List (Int × Int)} (h : ts.length ≤ 21) : (clearOf ts).length ≤ 441 := by
  have : (clearOf ts).length ≤ (rng ts.length).length * 21 := flat_len fun k hk => by
    have := (mem_rng hk).2
    unfold rowOf rowFrom
    rw [List.length_map]
    refine Nat.le_trans (List.length_filter_le _ _) ?_
    simp; omega
  rw [List.length_map, List.length_range] at this
  exact Nat.le_trans this (Nat.mul_le_mul_right 21 h)
noncomputable def wordT (t : Int × Int) : List UInt8 := [apAt (t.1 + 1), apAt (t.2 + 1)]
theorem ap_back {m : Int} (h : 0 ≤ m ∧ m < 7) : ((apAt (m + 1)).toNat : Int) - 66 = m := by
  have := in7 h.1 h.2
  rcases this with rfl | rfl | rfl | rfl | rfl | rfl | rfl <;> decide
theorem end_in {t : Int × Int} (hm : t ∈ ends21) : 0 ≤ t.1 ∧ t.1 < t.2 ∧ t.2 < 7 := by
  have hall : ends21.all (fun p => decide (0 ≤ p.1) && decide (p.1 < p.2) && decide (p.2 < 7)) = true := by decide
  have := List.all_eq_true.mp hall _ hm
  simp only [Bool.and_eq_true, decide_eq_true_eq] at this
  exact ⟨this.1.1, this.1.2, this.2⟩
theorem inD2 {p a b : Int} : inD (.int p) [.int a, .int b] = (a == p || b == p) := by
  show (eqD (.int a) (.int p) || (eqD (.int b) (.int p) || false)) = _
  rw [Bool.or_false]; rfl
theorem sgn_len (one other : Int × Int) (p : Int) : (sgn one other p).length = 1 := by
  unfold sgn
  cases inP p one with
  | true => rfl
  | false => cases p == other.1 <;> rfl
theorem clear_fn (G : Gl C) (hf : IsFn C 119 ["words"] (bodyOf 18) (scOf 18)) (h3 : IsFn C 85 ["addr"] (bodyOf 11) (scOf 11)) (h1 : IsFn C 78 ["addr"] (bodyOf 10) (scOf 10)) (hi : IsFn C 71 ["addr"] (bodyOf 9) (scOf 9))
    {ts : List (Int × Int)} (hts : ∀ t ∈ ts, t ∈ ends21) (hl : ts.length ≤ 21) : Fn C 8 119 [.tup (Byts (ts.map wordT))] (.lst ((clearOf ts).map pr)) := by
  refine Fn.intro G.ok hf (by decide +kernel) rfl ?_
  simp only [psi, pushes]
  walk_at "wh"
  (with_reducible apply Ex.new)
  · exact fun _ _ h => h
  · (with_reducible apply EvN.lst)
    · walk_at "evs"
    · exact Nat.zero_le _
  · decide +kernel
  rotate_left
  · walk_at "sw"
  intro a
  (with_reducible apply Ex.mapa (fun t : Int × Int => D.byt (wordT t).toArray) t2 ts [])
  · (with_reducible apply ItE.to)
    · apply ItE.tup
      walk_at "ev"
    · rw [Byts, List.map_map]; rfl
  · decide +kernel
  · walk_at "cap"
  · intro t ht
    obtain ⟨a0, a1, a2⟩ := end_in (hts t ht)
    walk_at "it1"
    (with_reducible apply Ev.to)
    · refine Ev.tup (ds := [.int _, .int _]) (Evs.cons (Ev.bin (Ev.subb (l := wordT t) (k := 0) (by walk_at "ev") (by walk_at "ev") (by decide) (show (0 : Int) < 2 by decide) (Nat.le_of_ble_eq_true rfl) (fun _ _ => rfl)) (by walk_at "ev") Op2.subi) (Evs.cons (Ev.bin (Ev.subb (l := wordT t) (k := 1) (by walk_at "ev") (by walk_at "ev") (by decide) (show (1 : Int) < 2 by decide) (Nat.le_of_ble_eq_true rfl) (fun _ _ => rfl)) (by walk_at "ev") Op2.subi) Evs.nil (fun _ => rfl)) (fun _ => rfl)) (Nat.le_of_ble_eq_true rfl)
    · show D.tup [D.int (((apAt (t.1 + 1)).toNat : Int) - 66), D.int (((apAt (t.2 + 1)).toNat : Int) - 66)] = t2 t
      rw [ap_back ⟨a0, by omega⟩, ap_back ⟨by omega, a2⟩]
  · exact Nat.le_trans hl (by decide)
  · exact fun _ _ _ => rfl
  · exact fun _ _ => rfl
  · decide +kernel
  · walk_at "swc"
  have zt : (ts.map t2).length < 2 ^ 62 := by rw [List.length_map]; exact Nat.lt_of_le_of_lt hl (by decide)
  have lt : (ts.map t2).length = ts.length := List.length_map ..
  have tat : ∀ i : Int, 0 ≤ i → i < ts.length → (ts.map t2)[i.toNat]? = some (t2 (tsAt ts i)) ∧ tsAt ts i ∈ ends21 := fun i i0 i1 => by
    have hlt : i.toNat < ts.length := by omega
    rw [List.getElem?_map, tsAt, List.getD_eq_getElem?_getD, List.getElem?_eq_getElem hlt]
    exact ⟨rfl, hts _ (List.getElem_mem hlt)⟩
  have cl := clearOf_len hl
  refine Ex.sub (Γ' := [("ties", .lst (ts.map t2)), ("found", .raw (.ref a))]) ?_ (by walk_at "sub")
  refine Ex.for_ (items := (rng ts.length).map D.int) (fun l Γ I => ∃ (ks : List Int) (cur : List ((Int × Int) × (Int × Int))), l = ks.map D.int ∧ (∀ k ∈ ks, 0 ≤ k ∧ k < ts.length) ∧ cur ++ ks.flatMap (rowOf ts) = clearOf ts ∧ I = Bx a (cur.map pr) ∧
      Γ = ([("ties", .lst (ts.map t2)), ("found", .raw (.ref a))] : Gam)) ?_ ⟨rng ts.length, [], rfl, fun k hk => mem_rng hk, rfl, rfl, rfl⟩ ?_ ?_ (fun _ _ => rfl)
  · (with_reducible apply ItE.to)
    · exact ItE.rngl (m := (ts.map t2).length) (by walk_at "nm") (by walk_at "evs") rfl zt (fun _ => rfl)
    · rw [lt]
  · rintro d l Γ I ⟨ks, cur, e1, e2, e3, rfl, rfl⟩
    cases ks with
    | nil => cases e1
    | cons k ks =>
      cases e1
      obtain ⟨k0, k1⟩ := e2 k (.head _)
      obtain ⟨tk, mk⟩ := tat k k0 k1
      rw [List.flatMap_cons, ← List.append_assoc] at e3
      refine ⟨([("k", .int k), ("ties", .lst (ts.map t2)), ("found", .raw (.ref a))] : Gam), by walk_at "asn", ?_⟩
      refine Ex.for_ (items := (rng k.toNat).map D.int) (fun l Γ I => ∃ (js : List Int) (cur' : List ((Int × Int) × (Int × Int))), l = js.map D.int ∧ (∀ j ∈ js, 0 ≤ j ∧ j < k) ∧ cur' ++ rowFrom ts k js = cur ++ rowOf ts k ∧ I = Bx a (cur'.map pr) ∧
        Γ = ([("k", .int k), ("ties", .lst (ts.map t2)), ("found", .raw (.ref a))] : Gam)) ?_ ⟨rng k.toNat, cur, rfl, fun j hj => by have := mem_rng hj; omega, rfl, rfl, rfl⟩ ?_ ?_ (fun _ _ => rfl)
      · refine ItE.rngl (by walk_at "nm") (by walk_at "evs") (by omega) (by omega) (fun _ => rfl)
      · rintro d l Γ I ⟨js, cur', f1, f2, f3, rfl, rfl⟩
        cases js with
        | nil => cases f1
        | cons j js =>
          cases f1
          obtain ⟨j0, j1⟩ := f2 j (.head _)
          obtain ⟨tj, mj⟩ := tat j j0 (by omega)
          rw [rowFrom_cons] at f3
          have zc : cur'.length ≤ 441 := by
            have h1 := congrArg List.length f3
            have h2 := congrArg List.length e3
            simp only [List.length_append] at h1 h2
            omega
          generalize tsAt ts j = one at *
          generalize tsAt ts k = other at *
          refine ⟨([("j", .int j), ("k", .int k), ("ties", .lst (ts.map t2)), ("found", .raw (.ref a))] : Gam), by walk_at "asn", ?_⟩
          walk_at "asg"
          walk_at "asg"
          refine Ex.sub (Γ' := [("other", t2 other), ("one", t2 one), ("k", .int k), ("ties", .lst (ts.map t2)), ("found", .raw (.ref a))]) ?_ (by walk_at "sub")
          refine Ex.ite (c := disj one other) ?_ (fun hd => ?_) (fun hd => ?_)
          · refine Tst.to (Tst.and (b := !inP one.1 other) (c := !inP one.2 other && true) (Tst.to (Tst.cmp (Ev.subt (l := [.int one.1, .int one.2]) (d := .int one.1) (k := 0) (by walk_at "ev") (by walk_at "ev") (by decide) rfl (Nat.le_of_ble_eq_true rfl) (fun _ _ => rfl)) (by walk_at "ev") (Gl.nint G (by rfl)) rfl) ?_) fun _ => Tst.and (b := !inP one.2 other) (c := true) (Tst.to (Tst.cmp (Ev.subt (l := [.int one.1, .int one.2]) (d := .int one.2) (k := 1) (by walk_at "ev") (by walk_at "ev") (by decide) rfl (Nat.le_of_ble_eq_true rfl) (fun _ _ => rfl)) (by walk_at "ev") (Gl.nint G (by rfl)) rfl) ?_) fun _ => Tst.and_nil) ?_
            · exact congrArg (!·) inD2
            · exact congrArg (!·) inD2
            · unfold disj; rw [Bool.and_true]
          · have e0 : ([.int one.1, .int one.2, .int other.1, .int other.2] : List D) = Ints [one.1, one.2, other.1, other.2] := rfl
            walk_at "wh"
            walk_at "asg"
            refine Ex.for_ (items := Ints (isort [one.1, one.2, other.1, other.2])) (fun l Γ I => ∃ (ps : List Int) (t : Str), l = Ints ps ∧ ps.foldl (fun t p => t ++ sgn one other p) t = textOf one other ∧ t.length + ps.length ≤ 4 ∧ I = Bx a (cur'.map pr) ∧
              Γ = ([("text", .str t), ("other", t2 other), ("one", t2 one), ("k", .int k), ("ties", .lst (ts.map t2)), ("found", .raw (.ref a))] : Gam)) ?_ ⟨_, ⟨#[]⟩, rfl, rfl, ?_, rfl, rfl⟩ ?_ ?_ (fun _ _ => rfl)
            · apply ItE.lst
              refine Ev.calb (d := .lst (Ints _)) (by walk_at "nm") (Evs.to (Evs.cons (Ev.lst (ds := [.int one.1, .int one.2, .int other.1, .int other.2]) ?_ (Nat.le_of_ble_eq_true rfl)) Evs.nil (fun _ => rfl)) (congrArg (fun x => [D.lst x]) e0)) (Cal.srt (Nat.le_of_ble_eq_true rfl) (isort_perm _) (isort_sorted _)) (fun _ => rfl) (fun _ => rfl)
              refine Evs.cons (Ev.subt (l := [.int one.1, .int one.2]) (k := 0) (by walk_at "ev") (by walk_at "ev") (by decide) rfl (Nat.le_of_ble_eq_true rfl) (fun _ _ => rfl)) (Evs.cons (Ev.subt (l := [.int one.1, .int one.2]) (k := 1) (by walk_at "ev") (by walk_at "ev") (by decide) rfl (Nat.le_of_ble_eq_true rfl) (fun _ _ => rfl))
                (Evs.cons (Ev.subt (l := [.int other.1, .int other.2]) (k := 0) (by walk_at "ev") (by walk_at "ev") (by decide) rfl (Nat.le_of_ble_eq_true rfl) (fun _ _ => rfl)) (Evs.cons (Ev.subt (l := [.int other.1, .int other.2]) (k := 1) (by walk_at "ev") (by walk_at "ev") (by decide) rfl (Nat.le_of_ble_eq_true rfl) (fun _ _ => rfl)) Evs.nil (fun _ => rfl)) (fun _ => rfl)) (fun _ => rfl)) (fun _ => rfl)
            · rw [(isort_perm _).length_eq]; exact Nat.le_of_ble_eq_true rfl
            · rintro d l Γ I ⟨ps, t, g1, g2, g3, rfl, rfl⟩
              cases ps with
              | nil => cases g1
              | cons p ps =>
                cases g1
                have g2 : ps.foldl (fun t p => t ++ sgn one other p) (t ++ sgn one other p) = textOf one other := g2
                have g4 : t.length + (ps.length + 1) ≤ 4 := g3
                have g5 : (t ++ sgn one other p).length + ps.length ≤ 4 := by rw [size_cat, sgn_len]; omega
                have g6 : t.length + 1 ≤ sizeLine := Nat.le_trans (m := 4) (by omega) (by decide)
                refine ⟨([("place", .int p), ("text", .str t), ("other", t2 other), ("one", t2 one), ("k", .int k), ("ties", .lst (ts.map t2)), ("found", .raw (.ref a))] : Gam), by walk_at "asn", ?_⟩
                refine Ex.ite (c := inP p one) (Tst.to (Tst.cmp (by walk_at "ev") (by walk_at "ev") (Gl.int G (by rfl)) rfl) inD2) (fun h => ?_) (fun h => ?_)
                · walk_at "wh"
                  refine Ex.asg (d := .str (t ++ sgn one other p)) (Ev.to (Ev.bin (by walk_at "ev") (by walk_at "ev") (Op2.adds g6)) ?_) (Or.inl (by decide +kernel)) ?_ (by walk_at "sw")
                  · unfold sgn; rw [h]; rfl
                  · exact Ex.nil ⟨_, ⟨ps, t ++ sgn one other p, rfl, g2, g5, rfl, rfl⟩, by walk_at "sub"⟩
                · walk_at "wh"
                  refine Ex.asg (d := .str (t ++ sgn one other p)) (Ev.to (Ev.bin (by walk_at "ev") (Ev.ite_str (b := p == other.1) (i := ⟨#[40]⟩) (j := ⟨#[41]⟩) ?_ (fun _ => Ev.str) (fun _ => Ev.str)) (Op2.adds ?_)) ?_) (Or.inl (by decide +kernel)) ?_ (by walk_at "sw")
                  · exact Tst.cmp (by walk_at "ev") (Ev.subt (l := [.int other.1, .int other.2]) (k := 0) (by walk_at "ev") (by walk_at "ev") (by decide) rfl (Nat.le_of_ble_eq_true rfl) (fun _ _ => rfl)) Cmp.eqi rfl
                  · cases p == other.1 <;> exact g6
                  · unfold sgn; rw [h]; rfl
                  · exact Ex.nil ⟨_, ⟨ps, t ++ sgn one other p, rfl, g2, g5, rfl, rfl⟩, by walk_at "sub"⟩
            · rintro Γ I ⟨ps, t, g1, g2, g3, rfl, rfl⟩
              cases ps with
              | cons p ps => cases g1
              | nil =>
                have g2 : t = textOf one other := g2
                have tok := text_ok mj mk hd
                have hc : clr one other = checkF (textOf one other) := by unfold clr; rw [hd]; rfl
                rw [hc] at f3
                rw [← g2] at tok f3
                unfold textOk at tok
                simp only [Bool.and_eq_true, decide_eq_true_eq] at tok
                obtain ⟨t1, t2', t3, t4⟩ := tok
                have t1' : ∀ c ∈ t.cps.toList, c ≠ 92 := fun c hc => by simpa using List.all_eq_true.mp t1 c hc
                have t4' : ∀ c ∈ (stripF t).cps.toList, c ≠ 92 := fun c hc => by simpa using List.all_eq_true.mp t4 c hc
                walk_at "wh"
                refine Ex.ite (c := checkF t) (Tst.val (Ev.calF (by walk_at "nm") (by walk_at "evs") h3 (check_fn G h3 h1 hi t1' t2' t3 t4') (by decide) (fun _ => rfl)) Tru.bool (fun _ _ => rfl)) (fun h => ?_) (fun h => ?_)
                · rw [h] at f3
                  walk_at "wh"
                  (with_reducible apply Ex.app (d := pr (one, other)))
                  · walk_at "lk"
                  · decide +kernel
                  · decide +kernel
                  · walk_at "ev"
                  · rw [List.length_map]; exact Nat.le_trans zc (by decide)
                  · refine Ex.nil ⟨([("k", .int k), ("ties", .lst (ts.map t2)), ("found", .raw (.ref a))] : Gam), ⟨js, cur' ++ [(one, other)], rfl, fun j hj => f2 j (.tail _ hj), by rw [List.append_assoc]; exact f3, ?_, rfl⟩, by walk_at "sub"⟩
                    rw [List.map_append]; rfl
                  · exact fun _ => rfl
                  · exact fun _ => ⟨_, rfl⟩
                · rw [h] at f3
                  walk_at "wh"
                  exact Ex.nil ⟨([("k", .int k), ("ties", .lst (ts.map t2)), ("found", .raw (.ref a))] : Gam), ⟨js, cur', rfl, fun j hj => f2 j (.tail _ hj), f3, rfl, rfl⟩, by walk_at "sub"⟩
          · have hc : clr one other = false := by unfold clr; rw [hd]; rfl
            rw [hc] at f3
            walk_at "wh"
            exact Ex.nil ⟨([("k", .int k), ("ties", .lst (ts.map t2)), ("found", .raw (.ref a))] : Gam), ⟨js, cur', rfl, fun j hj => f2 j (.tail _ hj), f3, rfl, rfl⟩, by walk_at "sub"⟩
      · rintro Γ I ⟨js, cur', f1, f2, f3, rfl, rfl⟩
        cases js with
        | cons j js => cases f1
        | nil =>
          have f3 : cur' = cur ++ rowOf ts k := by rw [← f3]; exact (List.append_nil _).symm
          rw [← f3] at e3
          exact Ex.nil ⟨([("ties", .lst (ts.map t2)), ("found", .raw (.ref a))] : Gam), ⟨ks, cur', rfl, fun k hk => e2 k (.tail _ hk), e3, rfl, rfl⟩, by walk_at "sub"⟩
  · rintro Γ I ⟨ks, cur, e1, e2, e3, rfl, rfl⟩
    cases ks with
    | cons k ks => cases e1
    | nil =>
      have e3 : cur = clearOf ts := by rw [← e3]; exact (List.append_nil _).symm
      rw [e3]
      (with_reducible apply Ex.retb)
      · walk_at "lk"
      · decide +kernel
      · decide +kernel
      · show _ = _
        rfl
end
section
variable {C : Cx} {n : Nat} {nm : Names} {Γ : Gam}
noncomputable abbrev Row := Int × Int × Int
noncomputable def colOf (r : Row) : UInt64 × UInt64 × UInt64 := hsv (ratio r.1 6) (ratio r.2.2 2) (ratio r.2.1 4)
noncomputable def prt (r : Row) : List Int := partsOf r.1 r.2.1 r.2.2
noncomputable def pAt (r : Row) (i : Int) : Int := (prt r).getD i.toNat 0
noncomputable def p3 (r : Row) : UInt64 × UInt64 × UInt64 := (ratio (pAt r 0) 8, ratio (pAt r 1) 8, ratio (pAt r 2) 8)
noncomputable def mix (x y : UInt64) : UInt64 := Float64.div (Float64.add x y) (Float64.ofInt 2)
noncomputable def rowOk (r : Row) : Bool := decide (0 ≤ r.1) && (decide (r.1 < 6) && (decide (1 ≤ r.2.1) && (decide (r.2.1 ≤ 4) && (decide (0 ≤ r.2.2) && (decide (r.2.2 ≤ 2) &&
  (!Float64.isInf (ratio r.1 6) && (!Float64.isInf (ratio r.2.2 2) && (!Float64.isInf (ratio r.2.1 4) && (hsvOk (ratio r.1 6) (ratio r.2.2 2) (ratio r.2.1 4) &&
  ((prt r).length == 3 && ((prt r).all (fun p => decide (0 ≤ p) && decide (p ≤ 8)) && ((colOf r).1 == (p3 r).1 && ((colOf r).2.1 == (p3 r).2.1 && (colOf r).2.2 == (p3 r).2.2)))))))))))))
noncomputable def rAt (R : List Row) (i : Int) : Row := R.getD i.toNat (0, 1, 0)
noncomputable def sAt (R : List Row) (e : Int × Int) (i : Int) : Int := pAt (rAt R e.1) i + pAt (rAt R e.2) i
noncomputable abbrev hl3 (s : Int × Int × Int) : UInt64 × UInt64 × UInt64 := hls (ratio s.1 16) (ratio s.2.1 16) (ratio s.2.2 16)
noncomputable def third (t : UInt64 × UInt64 × UInt64) : Int := (truncI (Float64.add (Float64.mul t.1 (Float64.ofInt 3)) f05)).fmod 3
noncomputable def sumOk (s : Int × Int × Int) : Bool := hlsOk (ratio s.1 16) (ratio s.2.1 16) (ratio s.2.2 16) && (rightOk (hl3 s) s.1 s.2.1 s.2.2 && Float64.isFinite (Float64.add (Float64.mul (hl3 s).1 (Float64.ofInt 3)) f05))
noncomputable def s3 (R : List Row) (e : Int × Int) : Int × Int × Int := (sAt R e 0, sAt R e 1, sAt R e 2)
noncomputable def toldOf (R : List Row) : List (UInt64 × UInt64 × UInt64) := ends21.map fun e => hl3 (s3 R e)
noncomputable def baseOf (R : List Row) : List Int := (toldOf R).map third
noncomputable def numsOf (l : List Int) : List Int := (l.drop 7).take 6
noncomputable def lightsOf (l : List Int) : List Int := anewOf (baseOf (ringOf l)) (numsOf l)
noncomputable def tiesOf (ls : List Int) (tone : Int) : List (Int × Int) := (ofLight ls tone).map tie
noncomputable def pairsOf (ls : List Int) : List ((Int × Int) × (Int × Int)) := (rng 3).flatMap fun tone => clearOf (tiesOf ls tone)
noncomputable def freshOf (l : List Int) : List (Int × Int) := (numsOf l).map fun x => tie (x.fmod 21)
noncomputable def isOwn (g : Int) (fr : List (Int × Int)) (p : (Int × Int) × (Int × Int)) : Bool := !inP g p.1 && (!inP g p.2 && (!fr.contains p.1 && !fr.contains p.2))
noncomputable def ownOf (l : List Int) : List ((Int × Int) × (Int × Int)) := (pairsOf (lightsOf l)).filter (isOwn (gapOf l) (freshOf l))
noncomputable def lawEnd (l : List Int) : Bool := (((pairsOf (lightsOf l)).length : Int) == foursOf (lightsOf l)) && (decide (3 ≤ ((pairsOf (lightsOf l)).length : Int)) && eqD (.lst ((ownOf l).map pr)) (.lst []))
theorem mix_ok : (rng 9).all (fun a => (rng 9).all fun b => mix (ratio a 8) (ratio b 8) == ratio (a + b) 16) = true := by decide +kernel
theorem r8_ok : (rng 9).all (fun a => !Float64.isInf (ratio a 8) && feq (ratio a 8) (ratio a 8)) = true := by decide +kernel
theorem rng9 {a : Int} (h : 0 ≤ a ∧ a ≤ 8) : a ∈ rng 9 := List.mem_map.mpr ⟨a.toNat, List.mem_range.mpr (by omega), by omega⟩
theorem mix_eq {a b : Int} (ha : 0 ≤ a ∧ a ≤ 8) (hb : 0 ≤ b ∧ b ≤ 8) : mix (ratio a 8) (ratio b 8) = ratio (a + b) 16 :=
  beq_iff_eq.mp (List.all_eq_true.mp (List.all_eq_true.mp mix_ok a (rng9 ha)) b (rng9 hb))
structure RowIs (r : Row) : Prop where
  c : 0 ≤ r.1 ∧ r.1 < 6
  q : 1 ≤ r.2.1 ∧ r.2.1 ≤ 4
  h : 0 ≤ r.2.2 ∧ r.2.2 ≤ 2
  i1 : Float64.isInf (ratio r.1 6) = false
  i2 : Float64.isInf (ratio r.2.2 2) = false
  i3 : Float64.isInf (ratio r.2.1 4) = false
  ok : hsvOk (ratio r.1 6) (ratio r.2.2 2) (ratio r.2.1 4) = true
  len : (prt r).length = 3
  in_ : ∀ p ∈ prt r, 0 ≤ p ∧ p ≤ 8
  col : colOf r = p3 r
theorem RowIs.of {r : Row} (h : rowOk r = true) : RowIs r := by
  unfold rowOk at h
  simp only [Bool.and_eq_true, decide_eq_true_eq, Bool.not_eq_true', beq_iff_eq] at h
  obtain ⟨h1, h2, h3, h4, h5, h6, h7, h8, h9, h10, h11, h12, h13, h14, h15⟩ := h
  refine ⟨⟨h1, h2⟩, ⟨h3, h4⟩, ⟨h5, h6⟩, h7, h8, h9, h10, h11, fun p hp => by simpa using List.all_eq_true.mp h12 p hp, ?_⟩
  exact Prod.ext h13 (Prod.ext h14 h15)
theorem RowIs.at {r : Row} (h : RowIs r) {i : Int} (i0 : 0 ≤ i) (i1 : i < 3) : (Ints (prt r))[i.toNat]? = some (.int (pAt r i)) ∧ 0 ≤ pAt r i ∧ pAt r i ≤ 8 := by
  have hl : i.toNat < (prt r).length := by rw [h.len]; omega
  unfold pAt
  rw [Ints, List.getElem?_map, List.getD_eq_getElem?_getD, List.getElem?_eq_getElem hl]
  exact ⟨rfl, h.in_ _ (List.getElem_mem hl)⟩
structure LawOk (l : List Int) : Prop where
  len : l.length ≤ 63
  row : ∀ r ∈ ringOf l, RowIs r
  sum : ∀ e ∈ ends21, sumOk (s3 (ringOf l) e) = true
theorem Itms.two {α β : Type} {t it2 ce : Expr} {d : Nat} (a : α → D) (m : α → List β) (g : α → β → D) : ∀ (l : List α), (∀ x ∈ l, ∃ Γ₁, Asn C nm t (a x) Γ Γ₁ ∧ Sub Γ Γ₁ ∧ Tl C n nm (inner ce d it2) Γ₁ ((m x).map (g x))) → Itms C n nm t [] (inner ce d it2) Γ (l.map a) (l.flatMap fun x => (m x).map (g x))
  | [], _ => .nil
  | x :: l, h => by
    obtain ⟨Γ₁, h1, h2, h3⟩ := h x (.head _)
    exact .cons (o := (m x).map (g x)) ⟨⟨Γ₁, true, _, h1, h2, .nil, fun _ => h3, rfl⟩⟩ (Itms.two a m g l fun y hy => h y (.tail _ hy))
theorem turn_two {elt t iter t' iter' : Expr} {sc : Scope} {cp : Pos} (it acc : Value) (env : Env) : compTurn (.ListComp elt [⟨t, iter, [], 0⟩, ⟨t', iter', [], 0⟩] sc cp) 0 it acc env = turnForm t iter [] (inner (.ListComp elt [⟨t, iter, [], 0⟩, ⟨t', iter', [], 0⟩] sc cp) 1 iter') (.compLoop (.ListComp elt [⟨t, iter, [], 0⟩, ⟨t', iter', [], 0⟩] sc cp) 0 it acc env) it acc env := by
  unfold turnForm inner
  simp only [bind_assoc, pure_bind]
  rfl
/-- a comprehension of two loops -/
theorem Ev.two {α β : Type} {elt t iter t' iter' : Expr} {sc : Scope} {cp : Pos} (a : α → D) (b : β → D) (m : α → List β) (g : α → β → D) (l : List α) (Γ' : Gam) (hi : ItE C (n + 1) nm Γ iter (l.map a)) (ok : compOk nm sc = true) (hΓ : Cap sc Γ Γ')
    (h : ∀ x ∈ l, ∃ Γ₁, Asn C sc.names t (a x) Γ' Γ₁ ∧ Sub Γ' Γ₁ ∧ ItE C (n + 1) sc.names Γ₁ iter' ((m x).map b) ∧ ∀ y ∈ m x, ∃ Γ₂, Asn C sc.names t' (b y) Γ₁ Γ₂ ∧ Sub Γ₁ Γ₂ ∧ Ev C (n + 1) sc.names Γ₂ elt (g x y))
    (hz : (l.flatMap fun x => (m x).map (g x)).length ≤ sizeLine)
    (hturn' : ∀ it acc env, compTurn (.ListComp elt [⟨t, iter, [], 0⟩, ⟨t', iter', [], 0⟩] sc cp) 1 it acc env = turnForm t' iter' [] (emit elt) (.compLoop (.ListComp elt [⟨t, iter, [], 0⟩, ⟨t', iter', [], 0⟩] sc cp) 1 it acc env) it acc env)
    (hs : ∀ env x, foldedSetIterable iter env x = pure x) (hs' : ∀ env x, foldedSetIterable iter' env x = pure x) :
    Ev C (n + 1) nm Γ (.ListComp elt [⟨t, iter, [], 0⟩, ⟨t', iter', [], 0⟩] sc cp) (.lst (l.flatMap fun x => (m x).map (g x))) :=
  Ev.comp (tail := inner (.ListComp elt [⟨t, iter, [], 0⟩, ⟨t', iter', [], 0⟩] sc cp) 1 iter') hi ok hΓ (Itms.two a m g l fun x hx => by
    obtain ⟨Γ₁, h1, h2, h3, h4⟩ := h x hx
    exact ⟨Γ₁, h1, h2, Tl.inner rfl h3 (Itms.map b (g x) (m x) h4) hturn' hs'⟩) hz turn_two hs
/-- the same bound to a plain name -/
theorem Ex.twoa {α β : Type} {I : Box} {y : Str} {py p : Pos} {r : List Stmt} {P : Out → Prop} {elt t iter t' iter' : Expr} {sc : Scope} {cp : Pos} (a : α → D) (b : β → D) (m : α → List β) (g : α → β → D) (l : List α) (Γ' : Gam) (hi : ItE C (n + 1) nm Γ iter (l.map a)) (ok : compOk nm sc = true) (hΓ : Cap sc Γ Γ')
    (h : ∀ x ∈ l, ∃ Γ₁, Asn C sc.names t (a x) Γ' Γ₁ ∧ Sub Γ' Γ₁ ∧ ItE C (n + 1) sc.names Γ₁ iter' ((m x).map b) ∧ ∀ y ∈ m x, ∃ Γ₂, Asn C sc.names t' (b y) Γ₁ Γ₂ ∧ Sub Γ₁ Γ₂ ∧ Ev C (n + 1) sc.names Γ₂ elt (g x y))
    (hz : (l.flatMap fun x => (m x).map (g x)).length ≤ sizeLine)
    (hturn' : ∀ it acc env, compTurn (.ListComp elt [⟨t, iter, [], 0⟩, ⟨t', iter', [], 0⟩] sc cp) 1 it acc env = turnForm t' iter' [] (emit elt) (.compLoop (.ListComp elt [⟨t, iter, [], 0⟩, ⟨t', iter', [], 0⟩] sc cp) 1 it acc env) it acc env)
    (hs : ∀ env x, foldedSetIterable iter env x = pure x) (hs' : ∀ env x, foldedSetIterable iter' env x = pure x) (hk : nm.lookup y = some .local)
    (hsw : ∀ env : Env, env.scope.kind = .function → env.kindOf y = some .local → swapsWith (.ListComp elt [⟨t, iter, [], 0⟩, ⟨t', iter', [], 0⟩] sc cp) (some (.Name y py)) p.line env = pure true)
    (k : Ex C (n + 1) nm ((y, .lst (l.flatMap fun x => (m x).map (g x))) :: Γ) I r P) : Ex C (n + 1) nm Γ I (.Assign [.Name y py] (.ListComp elt [⟨t, iter, [], 0⟩, ⟨t', iter', [], 0⟩] sc cp) p :: r) P :=
  Ex.asgc (tail := inner (.ListComp elt [⟨t, iter, [], 0⟩, ⟨t', iter', [], 0⟩] sc cp) 1 iter') hi ok hΓ (Itms.two a m g l fun x hx => by
    obtain ⟨Γ₁, h1, h2, h3, h4⟩ := h x hx
    exact ⟨Γ₁, h1, h2, Tl.inner rfl h3 (Itms.map b (g x) (m x) h4) hturn' hs'⟩) hz turn_two hs hk rfl hsw k
end
section
variable {C : Cx} {n : Nat} {nm : Names} {Γ : Gam}
structure Fns (C : Cx) : Prop where
  f38 : IsFn C 38 ["r", "g", "b"] (bodyOf 2) (scOf 2)
  f45 : IsFn C 45 ["h", "s", "v"] (bodyOf 3) (scOf 3)
  f57 : IsFn C 57 ["num"] (bodyOf 6) (scOf 6)
  f64 : IsFn C 64 ["resp"] (bodyOf 7) (scOf 7)
  f71 : IsFn C 71 ["addr"] (bodyOf 9) (scOf 9)
  f78 : IsFn C 78 ["addr"] (bodyOf 10) (scOf 10)
  f85 : IsFn C 85 ["addr"] (bodyOf 11) (scOf 11)
  f90 : IsFn C 90 ["script"] (bodyOf 13) (scOf 13)
  f95 : IsFn C 95 ["corner", "quarters", "halves"] (bodyOf 14) (scOf 14)
  f102 : IsFn C 102 ["told", "sums"] (bodyOf 15) (scOf 15)
  f109 : IsFn C 109 ["lights", "numbers"] (bodyOf 16) (scOf 16)
  f114 : IsFn C 114 ["ends", "lights", "tone"] (bodyOf 17) (scOf 17)
  f119 : IsFn C 119 ["words"] (bodyOf 18) (scOf 18)
  f124 : IsFn C 124 ["ends", "lights"] (bodyOf 19) (scOf 19)
  f129 : IsFn C 129 ["script"] (bodyOf 20) (scOf 20)
theorem feq8 {a : Int} (h : 0 ≤ a ∧ a ≤ 8) : Float64.isInf (ratio a 8) = false ∧ (Float64.cmp (ratio a 8) (ratio a 8) == some .eq) = true := by
  have := List.all_eq_true.mp r8_ok a (rng9 h)
  simpa using this
theorem trips_eq : ∀ {R : List Row}, (∀ r ∈ R, RowIs r) → okDs (R.map fun r => trip (colOf r)) (R.map fun r => trip (p3 r)) = true ∧ eqDs (R.map fun r => trip (colOf r)) (R.map fun r => trip (p3 r)) = true ∧ deps (R.map fun r => trip (colOf r)) ≤ 1
  | [], _ => ⟨rfl, rfl, Nat.zero_le _⟩
  | r :: R, h => by
    obtain ⟨h1, h2, h3⟩ := trips_eq (R := R) fun r hr => h r (.tail _ hr)
    have hr := h r (.head _)
    have e0 := (feq8 (hr.at (i := 0) (by decide) (by decide)).2).2
    have e1 := (feq8 (hr.at (i := 1) (by decide) (by decide)).2).2
    have e2 := (feq8 (hr.at (i := 2) (by decide) (by decide)).2).2
    rw [List.map_cons, List.map_cons, hr.col]
    unfold p3
    refine ⟨?_, ?_, ?_⟩
    · show ((_ && (_ && (_ && true))) && okDs (R.map fun r => trip (colOf r)) (R.map fun r => trip (p3 r))) = true
      rw [h1, Bool.and_true, Bool.and_true, Bool.and_eq_true, Bool.and_eq_true]
      exact ⟨e0, e1, e2⟩
    · show ((_ && (_ && (_ && true))) && eqDs (R.map fun r => trip (colOf r)) (R.map fun r => trip (p3 r))) = true
      rw [h2, Bool.and_true, Bool.and_true, Bool.and_eq_true, Bool.and_eq_true]
      exact ⟨e0, e1, e2⟩
    · show max _ _ ≤ 1
      exact Nat.max_le.mpr ⟨Nat.le_of_ble_eq_true rfl, h3⟩
theorem ring_len (l : List Int) : (ringOf l).length = 7 := by
  have hw : (wheelOf l).length = 6 := by unfold wheelOf; rw [List.length_map]; rfl
  have g0 := fmod_nonneg ((numOf l).fdiv 72) (b := 7) (by decide)
  have g1 := fmod_lt ((numOf l).fdiv 72) (b := 7) (by decide)
  have g : gapOf l = ((numOf l).fdiv 72).fmod 7 := rfl
  unfold ringOf
  rw [List.length_append, List.length_append, List.length_take, List.length_drop, hw, List.length_singleton]
  omega
theorem rAt_is {l : List Int} (H : LawOk l) {i : Int} (i0 : 0 ≤ i) (i1 : i < 7) : (ringOf l)[i.toNat]? = some (rAt (ringOf l) i) ∧ RowIs (rAt (ringOf l) i) := by
  have hl : i.toNat < (ringOf l).length := by rw [ring_len]; omega
  unfold rAt
  rw [List.getD_eq_getElem?_getD, List.getElem?_eq_getElem hl]
  exact ⟨rfl, H.row _ (List.getElem_mem hl)⟩
theorem told_at {l : List Int} {k : Int} (k0 : 0 ≤ k) (k1 : k < 21) : ((toldOf (ringOf l)).map trip)[k.toNat]? = some (trip (hl3 (s3 (ringOf l) (tie k)))) ∧ tie k ∈ ends21 := by
  have hl : k.toNat < ends21.length := by show k.toNat < 21; omega
  have e : ends21[k.toNat]? = some (tie k) := by rw [tie, List.getD_eq_getElem?_getD, List.getElem?_eq_getElem hl]; rfl
  refine ⟨?_, List.mem_of_getElem? e⟩
  rw [List.getElem?_map, toldOf, List.getElem?_map, e]; rfl
theorem s3_ints (R : List Row) (e : Int × Int) : ((rng 3).map fun t => D.int (sAt R e t)) = Ints [(s3 R e).1, (s3 R e).2.1, (s3 R e).2.2] := rfl
theorem byts_eq : ∀ (ws : List (List UInt8)), okDs (Byts ws) (Byts ws) = true ∧ eqDs (Byts ws) (Byts ws) = true ∧ deps (Byts ws) = 0
  | [] => ⟨rfl, rfl, rfl⟩
  | w :: ws => by
    obtain ⟨h1, h2, h3⟩ := byts_eq ws
    refine ⟨?_, ?_, ?_⟩
    · show (okD (.byt w.toArray) (.byt w.toArray) && okDs (Byts ws) (Byts ws)) = true
      rw [h1]; rfl
    · show (eqD (.byt w.toArray) (.byt w.toArray) && eqDs (Byts ws) (Byts ws)) = true
      rw [h2]; show ((w.toArray.toList == w.toArray.toList) && true) = true; rw [beq_self_eq_true]; rfl
    · show max 0 (deps (Byts ws)) = 0
      rw [h3]; rfl
theorem tups_eq (f : Int → List (List UInt8)) : ∀ (l : List Int), okDs (l.map fun t => .tup (Byts (f t))) (l.map fun t => .tup (Byts (f t))) = true ∧ eqDs (l.map fun t => .tup (Byts (f t))) (l.map fun t => .tup (Byts (f t))) = true ∧ deps (l.map fun t => .tup (Byts (f t))) ≤ 1
  | [] => ⟨rfl, rfl, Nat.zero_le _⟩
  | t :: l => by
    obtain ⟨h1, h2, h3⟩ := tups_eq f l
    obtain ⟨g1, g2, g3⟩ := byts_eq (f t)
    refine ⟨?_, ?_, ?_⟩
    · show (okDs (Byts (f t)) (Byts (f t)) && okDs _ _) = true
      rw [g1, h1]; rfl
    · show (eqDs (Byts (f t)) (Byts (f t)) && eqDs _ _) = true
      rw [g2, h2]; rfl
    · show max (deps (Byts (f t)) + 1) _ ≤ 1
      rw [g3]; exact Nat.max_le.mpr ⟨Nat.le_refl _, h3⟩
theorem byte_two {t : Int × Int} (h : t ∈ ends21) : byteArr [66 + t.1, 66 + t.2] = (wordT t).toArray := by
  have hall : ends21.all (fun t => byteArr [66 + t.1, 66 + t.2] == (wordT t).toArray) = true := by decide +kernel
  exact beq_iff_eq.mp (List.all_eq_true.mp hall t h)
theorem base_len (R : List Row) : (baseOf R).length = 21 := by unfold baseOf toldOf; rw [List.length_map, List.length_map]; rfl
theorem anew_len : ∀ (ns ls : List Int), (anewOf ls ns).length = ls.length
  | [], _ => rfl
  | x :: ns, ls => by
    show (anewOf (paint ls x) ns).length = _
    rw [anew_len ns]; unfold paint; rw [List.length_set]
theorem prs_dep : ∀ (ps : List ((Int × Int) × (Int × Int))), deps (ps.map pr) ≤ 2
  | [] => Nat.zero_le _
  | p :: ps => Nat.max_le.mpr ⟨Nat.le_of_ble_eq_true rfl, prs_dep ps⟩
theorem tie_ins (p : Int × Int) : ∀ (xs : List (Int × Int)), inOk (t2 p) (xs.map t2) = true ∧ inD (t2 p) (xs.map t2) = xs.contains p
  | [] => ⟨rfl, rfl⟩
  | x :: xs => by
    obtain ⟨h1, h2⟩ := tie_ins p xs
    constructor
    · unfold inOk at h1 ⊢
      rw [Bool.and_eq_true] at h1 ⊢
      refine ⟨?_, ?_⟩
      · show (true && noraws (xs.map t2)) = true
        rw [h1.1]; rfl
      · rw [List.map_cons, List.all_cons, h1.2]; rfl
    · show (eqD (t2 x) (t2 p) || inD (t2 p) (xs.map t2)) = _
      rw [h2, List.contains_cons]
      congr 1
      show ((x.1 == p.1) && ((x.2 == p.2) && true)) = (p == x)
      rw [Bool.and_true]
      obtain ⟨x1, x2⟩ := x
      obtain ⟨p1, p2⟩ := p
      show (x1 == p1 && x2 == p2) = (p1 == x1 && p2 == x2)
      rw [BEq.comm (a := x1), BEq.comm (a := x2)]
theorem ties_in (ls : List Int) (tone : Int) : (∀ t ∈ tiesOf ls tone, t ∈ ends21) ∧ (tiesOf ls tone).length ≤ 21 := by
  unfold tiesOf
  refine ⟨fun t ht => ?_, ?_⟩
  · obtain ⟨k, hk, rfl⟩ := List.mem_map.mp ht
    obtain ⟨h0, h1⟩ := ofLight_in hk
    exact (told_at (l := []) h0 h1).2
  · rw [List.length_map]
    exact Nat.le_trans (List.length_filter_le _ _) (by decide)
theorem pairs_len (ls : List Int) : (pairsOf ls).length ≤ 1323 := by
  have : (pairsOf ls).length ≤ (rng 3).length * 441 := flat_len fun t _ => clearOf_len (ties_in ls t).2
  exact Nat.le_trans this (by decide)
theorem pairs_map (ls : List Int) : ((rng 3).flatMap fun tone => (clearOf (tiesOf ls tone)).map pr) = (pairsOf ls).map pr := by
  unfold pairsOf; rw [List.map_flatMap]
theorem words_ties (ls : List Int) (t : Int) : wordsOf ls t = (tiesOf ls t).map wordT := by unfold wordsOf tiesOf; rw [List.map_map]; rfl
theorem okDs_nil (l : List D) : okDs l [] = true := by cases l <;> rfl
theorem Fns.up (f : Fns C) : Fns C.up := ⟨f.f38.up, f.f45.up, f.f57.up, f.f64.up, f.f71.up, f.f78.up, f.f85.up, f.f90.up, f.f95.up, f.f102.up, f.f109.up, f.f114.up, f.f119.up, f.f124.up, f.f129.up⟩
theorem law_fn (G : Gl C) (f : Fns C) {c d : Addr} (P : Pat C 50 c d) {l : List Int} (H : LawOk l) : Fn C 10 129 [.lst (Ints l)] (.bool (lawEnd l)) := by
  refine Fn.intro G.ok f.f129 (by decide +kernel) rfl ?_
  simp only [psi, pushes]
  have hring : (ringOf l).length ≤ sizeLine := by rw [ring_len]; decide
  walk_at "wh"
  (with_reducible apply Ex.tasgP)
  · exact fun _ _ h => h
  · (with_reducible apply EvP.calF)
    · walk_at "nm"
    · walk_at "evs"
    · exact f.f90
    · exact ring_fn G f.f90 H.len
    · decide
    · exact fun _ => rfl
  · walk_at "asns"
  rotate_left
  · exact fun _ => rfl
  · exact fun _ => rfl
  replace f := f.up
  replace P : Pat C.up 50 c d := ⟨P.ob, P.dict⟩
  have G' := G.up
  clear G
  rename Gl C.up => G
  (with_reducible apply Ex.asg)
  · (with_reducible apply Ev.mapc (a := t3) (b := fun r => D.lst (Ints (prt r))) (ringOf l) [])
    · (with_reducible apply ItE.lst)
      walk_at "ev"
    · decide +kernel
    · walk_at "cap"
    · intro r hr
      have hR := H.row r hr
      walk_at "it1"
      (with_reducible apply Ev.calF)
      · walk_at "nm"
      · walk_at "evs"
      · exact f.f95
      · exact parts_fn G f.f95 hR.c ⟨by have := hR.q; omega, by have := hR.q; omega⟩
      · decide
      · exact fun _ => rfl
    · exact hring
    · exact fun _ _ _ => rfl
    · exact fun _ _ => rfl
  · exact Or.inr (by decide +kernel)
  rotate_left
  · walk_at "sw"
  (with_reducible apply Ex.asg)
  · (with_reducible apply Ev.mapc (a := t3) (b := fun r => trip (colOf r)) (ringOf l) [])
    · (with_reducible apply ItE.lst)
      walk_at "ev"
    · decide +kernel
    · walk_at "cap"
    · intro r hr
      have hR := H.row r hr
      have i1 := hR.i1
      have i2 := hR.i2
      have i3 := hR.i3
      walk_at "it1"
      (with_reducible apply Ev.calF)
      · walk_at "nm"
      · walk_at "evs"
      · exact f.f45
      · exact hsv_fn G f.f45 hR.ok
      · decide
      · exact fun _ => rfl
    · exact hring
    · exact fun _ _ _ => rfl
    · exact fun _ _ => rfl
  · exact Or.inr (by decide +kernel)
  rotate_left
  · walk_at "sw"
  obtain ⟨te1, te2, te3⟩ := trips_eq H.row
  refine Ex.ite (c := false) ?_ (fun h => by cases h) (fun _ => ?_)
  · (with_reducible apply Tst.to)
    · (with_reducible apply Tst.cmp)
      · walk_at "ev"
      · (with_reducible apply Ev.mapc (a := fun r => D.lst (Ints (prt r))) (b := fun r => trip (p3 r)) (ringOf l) [])
        · (with_reducible apply ItE.lst)
          walk_at "ev"
        · decide +kernel
        · walk_at "cap"
        · intro r hr
          have hR := H.row r hr
          obtain ⟨a0, b0⟩ := hR.at (i := 0) (by decide) (by decide)
          obtain ⟨a1, b1⟩ := hR.at (i := 1) (by decide) (by decide)
          obtain ⟨a2, b2⟩ := hR.at (i := 2) (by decide) (by decide)
          have zl : (Ints (prt r)).length < 2 ^ 62 := by rw [List.length_map, hR.len]; decide
          have c0 := (feq8 b0).1
          have c1 := (feq8 b1).1
          have c2 := (feq8 b2).1
          walk_at "it1"
          refine Ev.tup (ds := [.flt _, .flt _, .flt _]) (Evs.cons (Ev.bin (Ev.subl (k := 0) (d := .int (pAt r 0)) (by walk_at "ev") (by walk_at "ev") (by decide) a0 zl (fun _ _ => rfl)) (by walk_at "ev") (Op2.trui (by decide) c0)) (Evs.cons (Ev.bin (Ev.subl (k := 1) (d := .int (pAt r 1)) (by walk_at "ev") (by walk_at "ev") (by decide) a1 zl (fun _ _ => rfl)) (by walk_at "ev") (Op2.trui (by decide) c1))
            (Evs.cons (Ev.bin (Ev.subl (k := 2) (d := .int (pAt r 2)) (by walk_at "ev") (by walk_at "ev") (by decide) a2 zl (fun _ _ => rfl)) (by walk_at "ev") (Op2.trui (by decide) c2)) Evs.nil (fun _ => rfl)) (fun _ => rfl)) (fun _ => rfl)) (Nat.le_of_ble_eq_true rfl)
        · exact hring
        · exact fun _ _ _ => rfl
        · exact fun _ _ => rfl
      · exact Cmp.nel G.ok te1 (Nat.le_trans te3 (by decide))
      · rfl
    · rw [te2]; rfl
  walk_at "wh"
  (with_reducible apply Ex.asg)
  · (with_reducible apply Ev.to)
    · (with_reducible apply Ev.two (a := D.int) (b := D.int) (m := fun a => rngF (a + 1) 7) (g := fun a b => t2 (a, b)) (rng 7) [])
      · walk_at "rngn"
      · decide +kernel
      · walk_at "cap"
      · intro a ha
        obtain ⟨a0, a1⟩ := mem_rng ha
        refine ⟨[("a", .int a)], by walk_at "asn", by walk_at "sub", ?_, fun b hb => ⟨[("b", .int b), ("a", .int a)], by walk_at "asn", by walk_at "sub", by walk_at "ev"⟩⟩
        (with_reducible apply ItE.rngF)
        · walk_at "nm"
        · walk_at "evs"
        · constructor <;> omega
        · decide
        · exact fun _ => rfl
        · exact fun _ => rfl
      · exact Nat.le_of_ble_eq_true rfl
      · exact fun _ _ _ => rfl
      · exact fun _ _ => rfl
      · exact fun _ _ => rfl
    · show _ = D.lst (ends21.map t2)
      rfl
  · exact Or.inr (by decide +kernel)
  rotate_left
  · walk_at "sw"
  have eall : ∀ e ∈ ends21, ∃ r1 r2 : Row, (ringOf l)[e.1.toNat]? = some r1 ∧ (ringOf l)[e.2.toNat]? = some r2 ∧ RowIs r1 ∧ RowIs r2 ∧ 0 ≤ e.1 ∧ 0 ≤ e.2 ∧ (∀ i, sAt (ringOf l) e i = pAt r1 i + pAt r2 i) := fun e he => by
    obtain ⟨e0, e1, e2⟩ := end_in he
    obtain ⟨q1, q2⟩ := rAt_is H (i := e.1) e0 (by omega)
    obtain ⟨q3, q4⟩ := rAt_is H (i := e.2) (by omega) e2
    exact ⟨_, _, q1, q3, q2, q4, e0, by omega, fun i => rfl⟩
  have cz : ((ringOf l).map fun r => trip (colOf r)).length < 2 ^ 62 := by rw [List.length_map, ring_len]; decide
  have pz : ((ringOf l).map fun r => D.lst (Ints (prt r))).length < 2 ^ 62 := by rw [List.length_map, ring_len]; decide
  have ez : (ends21.map t2).length < 2 ^ 62 := by decide
  (with_reducible apply Ex.asg)
  · (with_reducible apply Ev.mapc (a := t2) (b := fun e => trip (hl3 (s3 (ringOf l) e))) ends21 [("colours", .lst ((ringOf l).map fun r => trip (colOf r)))])
    · (with_reducible apply ItE.lst)
      walk_at "ev"
    · decide +kernel
    · walk_at "cap"
    · intro e he
      obtain ⟨r1, r2, g1, g2, R1, R2, e0, e0', hsum⟩ := eall e he
      have x1 : ((ringOf l).map fun r => trip (colOf r))[e.1.toNat]? = some (trip (p3 r1)) := by rw [List.getElem?_map, g1, ← R1.col]; rfl
      have x2 : ((ringOf l).map fun r => trip (colOf r))[e.2.toNat]? = some (trip (p3 r2)) := by rw [List.getElem?_map, g2, ← R2.col]; rfl
      have b0 := (R1.at (i := 0) (by decide) (by decide)).2
      have b1 := (R1.at (i := 1) (by decide) (by decide)).2
      have b2 := (R1.at (i := 2) (by decide) (by decide)).2
      have d0 := (R2.at (i := 0) (by decide) (by decide)).2
      have d1 := (R2.at (i := 1) (by decide) (by decide)).2
      have d2 := (R2.at (i := 2) (by decide) (by decide)).2
      have m0 : Float64.div (Float64.add (ratio (pAt r1 0) 8) (ratio (pAt r2 0) 8)) (Float64.ofInt 2) = ratio (sAt (ringOf l) e 0) 16 := by rw [hsum]; exact mix_eq b0 d0
      have m1 : Float64.div (Float64.add (ratio (pAt r1 1) 8) (ratio (pAt r2 1) 8)) (Float64.ofInt 2) = ratio (sAt (ringOf l) e 1) 16 := by rw [hsum]; exact mix_eq b1 d1
      have m2 : Float64.div (Float64.add (ratio (pAt r1 2) 8) (ratio (pAt r2 2) 8)) (Float64.ofInt 2) = ratio (sAt (ringOf l) e 2) 16 := by rw [hsum]; exact mix_eq b2 d2
      have hok := H.sum e he
      unfold sumOk at hok
      rw [Bool.and_eq_true] at hok
      walk_at "it1"
      (with_reducible apply Ev.calF)
      · walk_at "nm"
      · (with_reducible apply Evs.to)
        · (with_reducible apply Evs.cons)
          · (with_reducible apply Ev.bin)
            · (with_reducible apply Ev.bin)
              · exact Ev.subt (k := 0) (d := .flt (ratio (pAt r1 0) 8)) (Ev.subl (d := trip (p3 r1)) (by walk_at "ev") (by walk_at "ev") e0 x1 cz (fun _ _ => rfl)) (by walk_at "ev") (by decide) rfl (Nat.le_of_ble_eq_true rfl) (fun _ _ => rfl)
              · exact Ev.subt (k := 0) (d := .flt (ratio (pAt r2 0) 8)) (Ev.subl (d := trip (p3 r2)) (by walk_at "ev") (by walk_at "ev") e0' x2 cz (fun _ _ => rfl)) (by walk_at "ev") (by decide) rfl (Nat.le_of_ble_eq_true rfl) (fun _ _ => rfl)
              · exact Op2.addf
            · walk_at "ev"
            · walk_at "op"
          · (with_reducible apply Evs.cons)
            · (with_reducible apply Ev.bin)
              · (with_reducible apply Ev.bin)
                · exact Ev.subt (k := 1) (d := .flt (ratio (pAt r1 1) 8)) (Ev.subl (d := trip (p3 r1)) (by walk_at "ev") (by walk_at "ev") e0 x1 cz (fun _ _ => rfl)) (by walk_at "ev") (by decide) rfl (Nat.le_of_ble_eq_true rfl) (fun _ _ => rfl)
                · exact Ev.subt (k := 1) (d := .flt (ratio (pAt r2 1) 8)) (Ev.subl (d := trip (p3 r2)) (by walk_at "ev") (by walk_at "ev") e0' x2 cz (fun _ _ => rfl)) (by walk_at "ev") (by decide) rfl (Nat.le_of_ble_eq_true rfl) (fun _ _ => rfl)
                · exact Op2.addf
              · walk_at "ev"
              · walk_at "op"
            · (with_reducible apply Evs.cons)
              · (with_reducible apply Ev.bin)
                · (with_reducible apply Ev.bin)
                  · exact Ev.subt (k := 2) (d := .flt (ratio (pAt r1 2) 8)) (Ev.subl (d := trip (p3 r1)) (by walk_at "ev") (by walk_at "ev") e0 x1 cz (fun _ _ => rfl)) (by walk_at "ev") (by decide) rfl (Nat.le_of_ble_eq_true rfl) (fun _ _ => rfl)
                  · exact Ev.subt (k := 2) (d := .flt (ratio (pAt r2 2) 8)) (Ev.subl (d := trip (p3 r2)) (by walk_at "ev") (by walk_at "ev") e0' x2 cz (fun _ _ => rfl)) (by walk_at "ev") (by decide) rfl (Nat.le_of_ble_eq_true rfl) (fun _ _ => rfl)
                  · exact Op2.addf
                · walk_at "ev"
                · walk_at "op"
              · walk_at "evs"
              · exact fun _ => rfl
            · exact fun _ => rfl
          · exact fun _ => rfl
        · rw [m0, m1, m2]
      · exact f.f38
      · exact hls_fn G f.f38 hok.1
      · decide
      · exact fun _ => rfl
    · exact Nat.le_of_ble_eq_true rfl
    · exact fun _ _ _ => rfl
    · exact fun _ _ => rfl
  · exact Or.inr (by decide +kernel)
  rotate_left
  · walk_at "sw"
  have tz : ((toldOf (ringOf l)).map trip).length < 2 ^ 62 := by rw [List.length_map, toldOf, List.length_map]; decide
  have et : (ends21.map fun e => trip (hl3 (s3 (ringOf l) e))) = (toldOf (ringOf l)).map trip := by unfold toldOf; rw [List.map_map]; rfl
  rw [et]
  (with_reducible apply Ex.fila (a := D.int) (b := D.int) (pp := fun _ => false) (rng 21) [("ends", .lst (ends21.map t2)), ("parts", .lst ((ringOf l).map fun r => D.lst (Ints (prt r)))), ("told", .lst ((toldOf (ringOf l)).map trip))])
  · walk_at "rngn"
  · decide +kernel
  · walk_at "cap"
  · intro k hk
    obtain ⟨k0, k1⟩ := mem_rng hk
    obtain ⟨j1, he⟩ := told_at (l := l) k0 k1
    have i1 := tie_at k0 k1
    obtain ⟨r1, r2, g1, g2, R1, R2, e0, e0', hsum⟩ := eall _ he
    have x1 : ((ringOf l).map fun r => D.lst (Ints (prt r)))[(tie k).1.toNat]? = some (.lst (Ints (prt r1))) := by rw [List.getElem?_map, g1]; rfl
    have x2 : ((ringOf l).map fun r => D.lst (Ints (prt r)))[(tie k).2.toNat]? = some (.lst (Ints (prt r2))) := by rw [List.getElem?_map, g2]; rfl
    have l1 : (Ints (prt r1)).length < 2 ^ 62 := by rw [List.length_map, R1.len]; decide
    have l2 : (Ints (prt r2)).length < 2 ^ 62 := by rw [List.length_map, R2.len]; decide
    have hok := H.sum _ he
    unfold sumOk at hok
    rw [Bool.and_eq_true, Bool.and_eq_true] at hok
    have bs : ∀ i : Int, 0 ≤ i → i < 3 → 0 ≤ sAt (ringOf l) (tie k) i ∧ sAt (ringOf l) (tie k) i ≤ 16 := fun i i0 i1 => by
      have h1 := (R1.at i0 i1).2
      have h2 := (R2.at i0 i1).2
      rw [hsum]; omega
    refine ⟨[("k", .int k), ("ends", .lst (ends21.map t2)), ("parts", .lst ((ringOf l).map fun r => D.lst (Ints (prt r)))), ("told", .lst ((toldOf (ringOf l)).map trip))], by walk_at "asn", by walk_at "sub", ?_, fun h => by cases h⟩
    refine Tst.to (Tst.not (b := true) (Tst.val (d := .bool true) ?_ Tru.bool (fun _ _ => rfl))) rfl
    (with_reducible apply Ev.calF)
    · walk_at "nm"
    · (with_reducible apply Evs.to)
      · (with_reducible apply Evs.cons)
        · walk_at "ev"
        · (with_reducible apply Evs.cons)
          · (with_reducible apply Ev.mapc (a := D.int) (b := fun t => D.int (sAt (ringOf l) (tie k) t)) (rng 3) [("ends", .lst (ends21.map t2)), ("k", .int k), ("parts", .lst ((ringOf l).map fun r => D.lst (Ints (prt r))))])
            · walk_at "rngn"
            · decide +kernel
            · walk_at "cap"
            · intro t ht
              obtain ⟨t0, t1⟩ := mem_rng ht
              obtain ⟨u1, _⟩ := R1.at t0 t1
              obtain ⟨u2, _⟩ := R2.at t0 t1
              walk_at "it1"
              rw [hsum]
              refine Ev.bin (Ev.subl (d := .int (pAt r1 t)) (Ev.subl (d := .lst (Ints (prt r1))) (by walk_at "ev") (k := (tie k).1) ?_ e0 x1 pz (fun _ _ => rfl)) (by walk_at "ev") t0 u1 l1 (fun _ _ => rfl)) (Ev.subl (d := .int (pAt r2 t)) (Ev.subl (d := .lst (Ints (prt r2))) (by walk_at "ev") (k := (tie k).2) ?_ e0' x2 pz (fun _ _ => rfl)) (by walk_at "ev") t0 u2 l2 (fun _ _ => rfl)) Op2.addi
              · walk_at "ev"
              · walk_at "ev"
            · exact Nat.le_of_ble_eq_true rfl
            · exact fun _ _ _ => rfl
            · exact fun _ _ => rfl
          · walk_at "evs"
          · exact fun _ => rfl
        · exact fun _ => rfl
      · rw [s3_ints]
    · exact f.f102
    · exact right_fn G f.f102 (bs 0 (by decide) (by decide)) (bs 1 (by decide) (by decide)) (bs 2 (by decide) (by decide)) hok.2.1
    · decide
    · exact fun _ => rfl
  · exact Nat.le_of_ble_eq_true rfl
  · exact fun _ _ _ => rfl
  · exact fun _ _ => rfl
  · decide +kernel
  · walk_at "swc"
  have ew : ((rng 21).filter fun _ => false).map D.int = [] := rfl
  rw [ew]
  have hl : (Ints l).length ≤ sizeLine := by rw [List.length_map]; exact Nat.le_trans H.len (by decide)
  (with_reducible apply Ex.asg)
  · (with_reducible apply Ev.to)
    · walk_at "ev"
    · show _ = D.lst (Ints (numsOf l))
      unfold numsOf
      simp only [Ints, List.map_take, List.map_drop]
  · exact Or.inl (by decide +kernel)
  rotate_left
  · walk_at "sw"
  (with_reducible apply Ex.asg)
  · (with_reducible apply Ev.calF)
    · walk_at "nm"
    · (with_reducible apply Evs.to)
      · (with_reducible apply Evs.cons)
        · (with_reducible apply Ev.mapc (a := trip) (b := fun t => D.int (third t)) (toldOf (ringOf l)) [])
          · (with_reducible apply ItE.lst)
            walk_at "ev"
          · decide +kernel
          · walk_at "cap"
          · intro t ht
            obtain ⟨e, he, rfl⟩ := List.mem_map.mp ht
            have hok := H.sum _ he
            unfold sumOk at hok
            rw [Bool.and_eq_true, Bool.and_eq_true] at hok
            have q4 := hok.2.2
            walk_at "it1"
            generalize hl3 (s3 (ringOf l) e) = t at *
            obtain ⟨t1, t2, t3⟩ := t
            walk_at "evto"
            rfl
          · exact Nat.le_of_ble_eq_true rfl
          · exact fun _ _ _ => rfl
          · exact fun _ _ => rfl
        · walk_at "evs"
        · exact fun _ => rfl
      · show [D.lst ((toldOf (ringOf l)).map fun t => D.int (third t)), _] = [D.lst (Ints (baseOf (ringOf l))), D.lst (Ints (numsOf l))]
        unfold baseOf; simp only [Ints, List.map_map]; rfl
    · exact f.f109
    · exact anew_fn G f.f109 (base_len _)
    · decide
    · exact fun _ => rfl
  · exact Or.inr (by decide +kernel)
  rotate_left
  · walk_at "sw"
  have hll : (anewOf (baseOf (ringOf l)) (numsOf l)).length = 21 := by rw [anew_len, base_len]
  show Ex C.up _ _ (("lights", .lst (Ints (lightsOf l))) :: _) _ _ _
  have hll' : (lightsOf l).length = 21 := hll
  have elaw : lawEnd l = ((((pairsOf (lightsOf l)).length : Int) == foursOf (lightsOf l)) && (decide (3 ≤ ((pairsOf (lightsOf l)).length : Int)) && eqD (.lst (((pairsOf (lightsOf l)).filter (isOwn (gapOf l) (freshOf l))).map pr)) (.lst []))) := rfl
  rw [elaw]
  generalize lightsOf l = ls at hll' ⊢
  clear hll elaw et tz
  refine Ex.sub (Γ' := [("lights", .lst (Ints ls)), ("numbers", .lst (Ints (numsOf l))), ("wrong", .lst []), ("ends", .lst (ends21.map t2)), ("gap", .int (gapOf l))]) ?_ (by walk_at "sub")
  (with_reducible apply Ex.mapa (a := D.int) (b := fun t => D.tup (Byts (wordsOf ls t))) (rng 3) [("ends", .lst (ends21.map t2)), ("lights", .lst (Ints ls))])
  · walk_at "rngn"
  · decide +kernel
  · walk_at "cap"
  · intro t ht
    walk_at "it1"
    (with_reducible apply Ev.calF)
    · walk_at "nm"
    · walk_at "evs"
    · exact f.f114
    · exact flags_fn G f.f114 f.f57 f.f64 P hll'
    · decide
    · exact fun _ => rfl
  · exact Nat.le_of_ble_eq_true rfl
  · exact fun _ _ _ => rfl
  · exact fun _ _ => rfl
  · decide +kernel
  · walk_at "swc"
  have lz : (Ints ls).length < 2 ^ 62 := by rw [List.length_map, hll']; decide
  (with_reducible apply Ex.mapa (a := D.int) (b := fun t => D.tup (Byts (wordsOf ls t))) (rng 3) [("ends", .lst (ends21.map t2)), ("lights", .lst (Ints ls))])
  · walk_at "rngn"
  · decide +kernel
  · walk_at "cap"
  · intro tone ht
    refine ⟨[("tone", .int tone), ("ends", .lst (ends21.map t2)), ("lights", .lst (Ints ls))], by walk_at "asn", by walk_at "sub", ?_⟩
    refine Ev.to (Ev.calt (d := .tup (((rng 21).filter fun k => ls.getD k.toNat 0 == tone).map fun k => D.byt (wordAt k).toArray)) (by walk_at "nm") (Evs.cons ?_ Evs.nil (fun _ => rfl)) (Cal.tupl ?_) (fun _ => rfl) (fun _ => rfl)) ?_
    · (with_reducible apply Ev.filc (a := D.int) (b := fun k => D.byt (wordAt k).toArray) (p := fun k => ls.getD k.toNat 0 == tone) (rng 21) [("ends", .lst (ends21.map t2)), ("lights", .lst (Ints ls)), ("tone", .int tone)])
      · walk_at "rngn"
      · decide +kernel
      · walk_at "cap"
      · intro k hk
        obtain ⟨k0, k1⟩ := mem_rng hk
        have i1 := tie_at k0 k1
        have he := (told_at (l := []) k0 k1).2
        have i2 : (Ints ls)[k.toNat]? = some (D.int (ls.getD k.toNat 0)) := by
          have hlt : k.toNat < ls.length := by omega
          rw [List.getElem?_map, List.getD_eq_getElem?_getD, List.getElem?_eq_getElem hlt]; rfl
        obtain ⟨b0, b1, b2⟩ := end_in he
        refine ⟨[("k", .int k), ("ends", .lst (ends21.map t2)), ("lights", .lst (Ints ls)), ("tone", .int tone)], by walk_at "asn", by walk_at "sub", ?_, fun _ => ?_⟩
        · walk_at "ts"
        · refine Ev.to (Ev.calt (d := .byt (byteArr [66 + (tie k).1, 66 + (tie k).2])) (by walk_at "nm") (Evs.to (Evs.cons (Ev.lst (ds := [.int (66 + (tie k).1), .int (66 + (tie k).2)]) (by walk_at "evs") (Nat.le_of_ble_eq_true rfl)) Evs.nil (fun _ => rfl)) rfl) (Cal.bytl (l := [66 + (tie k).1, 66 + (tie k).2]) ?_ (Nat.le_of_ble_eq_true rfl)) (fun _ => rfl) (fun _ => rfl)) ?_
          · intro i hi
            rcases List.mem_cons.mp hi with rfl | hi
            · omega
            · rcases List.mem_singleton.mp hi with rfl; omega
          · rw [byte_two he]; rfl
      · exact Nat.le_of_ble_eq_true rfl
      · exact fun _ _ _ => rfl
      · exact fun _ _ => rfl
    · rw [List.length_map]; exact Nat.le_trans (List.length_filter_le _ _) (by decide)
    · unfold wordsOf ofLight; rw [Byts, List.map_map]; rfl
  · exact Nat.le_of_ble_eq_true rfl
  · exact fun _ _ _ => rfl
  · exact fun _ _ => rfl
  · decide +kernel
  · walk_at "swc"
  obtain ⟨v1, v2, v3⟩ := tups_eq (wordsOf ls) (rng 3)
  refine Ex.ite (c := false) ?_ (fun h => by cases h) (fun _ => ?_)
  · refine Tst.or (b := false) (c := false || false) (Tst.to (Tst.cmp (by walk_at "ev") (by walk_at "ev") (Cmp.nel (l := []) (r := []) G.ok rfl (by decide)) rfl) rfl) fun _ => Tst.or (b := false) (c := false) (Tst.to (Tst.cmp (by walk_at "ev") (by walk_at "ev") (Cmp.nel G.ok v1 (Nat.le_trans v3 (by decide))) rfl) ?_) fun _ => Tst.or_nil
    rw [v2]; rfl
  walk_at "wh"
  clear v1 v2 v3
  have pl := pairs_len ls
  refine Ex.sub (Γ' := [("read", .lst ((rng 3).map fun t => D.tup (Byts (wordsOf ls t)))), ("lights", .lst (Ints ls)), ("numbers", .lst (Ints (numsOf l))), ("ends", .lst (ends21.map t2)), ("gap", .int (gapOf l))]) ?_ (by walk_at "sub")
  (with_reducible apply Ex.twoa (a := fun tone => D.tup (Byts (wordsOf ls tone))) (b := pr) (m := fun tone => clearOf (tiesOf ls tone)) (g := fun _ p => pr p) (rng 3) [])
  · (with_reducible apply ItE.lst)
    walk_at "ev"
  · decide +kernel
  · walk_at "cap"
  · intro tone ht
    obtain ⟨h1, h2⟩ := ties_in ls tone
    refine ⟨[("words", .tup (Byts (wordsOf ls tone)))], by walk_at "asn", by walk_at "sub", ?_, fun p hp => ⟨[("pair", pr p), ("words", .tup (Byts (wordsOf ls tone)))], by walk_at "asn", by walk_at "sub", by walk_at "ev"⟩⟩
    (with_reducible apply ItE.lst)
    (with_reducible apply Ev.calF)
    · walk_at "nm"
    · (with_reducible apply Evs.to)
      · walk_at "evs"
      · rw [words_ties]
    · exact f.f119
    · exact clear_fn G f.f119 f.f85 f.f78 f.f71 h1 h2
    · decide
    · exact fun _ => rfl
  · rw [pairs_map, List.length_map]; exact Nat.le_trans pl (by decide)
  · exact fun _ _ _ => rfl
  · exact fun _ _ => rfl
  · exact fun _ _ => rfl
  · decide +kernel
  · walk_at "swc"
  rw [pairs_map]
  (with_reducible apply Ex.asg)
  · (with_reducible apply Ev.to)
    · (with_reducible apply Ev.mapc (a := D.int) (b := fun x => t2 (tie (x.fmod 21))) (numsOf l) [("ends", .lst (ends21.map t2))])
      · (with_reducible apply ItE.lst)
        walk_at "ev"
      · decide +kernel
      · walk_at "cap"
      · intro x hx
        have x0 := fmod_nonneg x (b := 21) (by decide)
        have x1 := fmod_lt x (b := 21) (by decide)
        have i1 := tie_at x0 x1
        refine ⟨[("x", .int x), ("ends", .lst (ends21.map t2))], by walk_at "asn", by walk_at "sub", ?_⟩
        exact Ev.subl (k := x.fmod 21) (by walk_at "ev") (by walk_at "ev") x0 i1 ez (fun _ _ => rfl)
      · exact Nat.le_trans (List.length_take_le _ _) (by decide)
      · exact fun _ _ _ => rfl
      · exact fun _ _ => rfl
    · show _ = D.lst ((freshOf l).map t2)
      unfold freshOf; rw [List.map_map]; rfl
  · exact Or.inr (by decide +kernel)
  rotate_left
  · walk_at "sw"
  (with_reducible apply Ex.fila (a := pr) (b := pr) (pp := isOwn (gapOf l) (freshOf l)) (pairsOf ls) [("fresh", .lst ((freshOf l).map t2)), ("gap", .int (gapOf l))])
  · (with_reducible apply ItE.lst)
    walk_at "ev"
  · decide +kernel
  · walk_at "cap"
  · intro p hp
    obtain ⟨one, other⟩ := p
    obtain ⟨a1, a2⟩ := tie_ins one (freshOf l)
    obtain ⟨b1, b2⟩ := tie_ins other (freshOf l)
    refine ⟨[("pair", pr (one, other)), ("fresh", .lst ((freshOf l).map t2)), ("gap", .int (gapOf l))], by walk_at "asn", by walk_at "sub", ?_, fun _ => by walk_at "ev"⟩
    refine Tst.to (Tst.and (b := !inP (gapOf l) one) (c := !inP (gapOf l) other && (!(freshOf l).contains one && (!(freshOf l).contains other && true))) (Tst.to (Tst.cmp (by walk_at "ev") (Ev.subt (l := [t2 one, t2 other]) (d := t2 one) (k := 0) (by walk_at "ev") (by walk_at "ev") (by decide) rfl (Nat.le_of_ble_eq_true rfl) (fun _ _ => rfl)) (Gl.nint G (by rfl)) rfl) (congrArg (!·) inD2)) fun _ =>
      Tst.and (b := !inP (gapOf l) other) (c := !(freshOf l).contains one && (!(freshOf l).contains other && true)) (Tst.to (Tst.cmp (by walk_at "ev") (Ev.subt (l := [t2 one, t2 other]) (d := t2 other) (k := 1) (by walk_at "ev") (by walk_at "ev") (by decide) rfl (Nat.le_of_ble_eq_true rfl) (fun _ _ => rfl)) (Gl.nint G (by rfl)) rfl) (congrArg (!·) inD2)) fun _ =>
      Tst.and (b := !(freshOf l).contains one) (c := !(freshOf l).contains other && true) (Tst.to (Tst.cmp (Ev.subt (l := [t2 one, t2 other]) (d := t2 one) (k := 0) (by walk_at "ev") (by walk_at "ev") (by decide) rfl (Nat.le_of_ble_eq_true rfl) (fun _ _ => rfl)) (by walk_at "ev") (Gl.ninl G a1) rfl) (congrArg (!·) a2)) fun _ =>
      Tst.and (b := !(freshOf l).contains other) (c := true) (Tst.to (Tst.cmp (Ev.subt (l := [t2 one, t2 other]) (d := t2 other) (k := 1) (by walk_at "ev") (by walk_at "ev") (by decide) rfl (Nat.le_of_ble_eq_true rfl) (fun _ _ => rfl)) (by walk_at "ev") (Gl.ninl G b1) rfl) (congrArg (!·) b2)) fun _ => Tst.and_nil) ?_
    unfold isOwn; rw [Bool.and_true]
  · exact Nat.le_trans pl (by decide)
  · exact fun _ _ _ => rfl
  · exact fun _ _ => rfl
  · decide +kernel
  · walk_at "swc"
  have pz' : ((pairsOf ls).map pr).length < 2 ^ 62 := by rw [List.length_map]; exact Nat.lt_of_le_of_lt pl (by decide)
  have epl : (((pairsOf ls).map pr).length : Int) = ((pairsOf ls).length : Int) := by rw [List.length_map]
  (with_reducible apply Ex.ret)
  · refine Ev.and3 (b := ((pairsOf ls).length : Int) == foursOf ls) (c := decide (3 ≤ ((pairsOf ls).length : Int))) (d := eqD (.lst (((pairsOf ls).filter (isOwn (gapOf l) (freshOf l))).map pr)) (.lst [])) (Ev.to (Ev.cmp (Ev.calb (by walk_at "nm") (by walk_at "evs") (Cal.lenl pz') (fun _ => rfl) (fun _ => rfl)) (Ev.calF (by walk_at "nm") (by walk_at "evs") f.f124 (fours_fn G f.f124 hll') (by decide) (fun _ => rfl)) Cmp.eqi rfl) (by rw [epl])) (fun _ => Ev.to (Ev.cmp (Ev.calb (by walk_at "nm") (by walk_at "evs") (Cal.lenl pz') (fun _ => rfl) (fun _ => rfl)) (by walk_at "ev") Cmp.gei rfl) (by rw [epl])) (fun _ _ => ?_)
    exact Ev.cmp (by walk_at "ev") (by walk_at "ev") (Cmp.eq G.ok (okDs_nil _) (Nat.le_trans (Nat.succ_le_succ (prs_dep _)) (by decide))) rfl
  · show _ = _
    rfl
end
section
noncomputable def frc {β : Type} (x : UInt64) (k : UInt64 → β) : β := @Nat.rec (fun _ => β) (k 0) (fun n _ => k (UInt64.ofNat (n+1))) x.toNat
theorem frc_eq {β : Type} (x : UInt64) (k : UInt64 → β) : frc x k = k x := by
  unfold frc
  cases h : x.toNat with
  | zero => exact congrArg k (UInt64.toNat_inj.mp (by rw [h]; rfl))
  | succ n => exact congrArg k (UInt64.toNat_inj.mp (by rw [h, UInt64.toNat_ofNat']; have := x.toNat_lt; rw [h] at this; exact Nat.mod_eq_of_lt this))
noncomputable def hlsF {β : Type} (r g b : UInt64) (k : UInt64 → UInt64 → UInt64 → β) : β :=
  frc (max3 r g b) fun maxc =>
  frc (min3 r g b) fun minc =>
  frc (Float64.add maxc minc) fun sumc =>
  frc (Float64.sub maxc minc) fun rangec =>
  frc (Float64.div sumc f2) fun l =>
  bif feq minc maxc then k f0 l f0 else
  frc (bif fle l f05 then Float64.div rangec sumc else frc (Float64.sub f2 maxc) fun z => frc (Float64.sub z minc) fun z => Float64.div rangec z) fun s =>
  frc (Float64.sub maxc r) fun z => frc (Float64.div z rangec) fun rc =>
  frc (Float64.sub maxc g) fun z => frc (Float64.div z rangec) fun gc =>
  frc (Float64.sub maxc b) fun z => frc (Float64.div z rangec) fun bc =>
  frc (bif feq r maxc then Float64.sub bc gc else bif feq g maxc then frc (Float64.add f2 rc) fun z => Float64.sub z bc else frc (Float64.add f4 gc) fun z => Float64.sub z rc) fun h =>
  frc (Float64.div h f6) fun z => frc (Float64.divmod z f1).2 fun z => k z l s
theorem hlsF_eq {β : Type} (r g b : UInt64) (k : UInt64 → UInt64 → UInt64 → β) : hlsF r g b k = k (hls r g b).1 (hls r g b).2.1 (hls r g b).2.2 := by
  unfold hlsF hls
  simp only [frc_eq]
  cases feq (min3 r g b) (max3 r g b) <;> rfl
noncomputable def frI {β : Type} (x : Int) (k : Int → β) : β := @Int.rec (fun _ => β) (fun n => @Nat.rec (fun _ => β) (k 0) (fun m _ => k (Int.ofNat (m + 1))) n) (fun n => @Nat.rec (fun _ => β) (k (Int.negSucc 0)) (fun m _ => k (Int.negSucc (m + 1))) n) x
theorem frI_eq {β : Type} (x : Int) (k : Int → β) : frI x k = k x := by
  unfold frI
  cases x with
  | ofNat n => cases n <;> rfl
  | negSucc n => cases n <;> rfl
/-- the sum is good, and its light is asked -/
noncomputable def sumF (p : Int → Bool) (a b c : Int) : Bool :=
  frI a fun a => frI b fun b => frI c fun c =>
  frc (ratio a 16) fun x => frc (ratio b 16) fun y => frc (ratio c 16) fun z =>
  hlsOk x y z && hlsF x y z fun t1 t2 t3 =>
    rightOk (t1, t2, t3) a b c && frc (Float64.add (Float64.mul t1 (Float64.ofInt 3)) f05) fun w => Float64.isFinite w && p ((truncI w).fmod 3)
theorem sumF_eq {p : Int → Bool} {a b c : Int} (h : sumF p a b c = true) : sumOk (a, b, c) = true ∧ p (third (hl3 (a, b, c))) = true := by
  unfold sumF at h
  simp only [frI_eq, frc_eq, hlsF_eq, Bool.and_eq_true] at h
  obtain ⟨h1, h2, h3, h4⟩ := h
  refine ⟨?_, h4⟩
  unfold sumOk
  simp only [Bool.and_eq_true]
  exact ⟨h1, h2, h3⟩
noncomputable def sP (p : Int → Bool) (x y : Row) : Bool := sumF p (pAt x 0 + pAt y 0) (pAt x 1 + pAt y 1) (pAt x 2 + pAt y 2)
noncomputable def whl (c o : Int) : Row := (c, 3 - 2 * c.fmod 2 + o, 2)
noncomputable def strang (q : Int) : List Row := (0, q, 0) :: ((rng 6).flatMap fun c => [(c, q, 1), (c, q, 2)])
noncomputable def lwT : List ((Int × Int) × List Int) := [((0, 1), [0]), ((0, 2), [0, 1]), ((0, 3), [0]), ((0, 4), [0, 2]), ((0, 5), [0]), ((1, 2), [1]), ((1, 3), [1]), ((1, 4), [2]), ((1, 5), [0]), ((2, 3), [1]), ((2, 4), [1, 2]), ((2, 5), [1]), ((3, 4), [2]), ((3, 5), [2]), ((4, 5), [2])]
noncomputable def lw (c d : Int) : List Int := (lwT.lookup (c, d)).getD []
theorem rows_ok : ((rng 6).all fun c => [1, 2, 3, 4].all fun q => (rng 3).all fun h => rowOk (c, q, h)) = true := by decide +kernel
theorem sA_0 : ((rng 6).all fun d => !decide (0 < d) || ((rng 2).all fun o => (rng 2).all fun p => sP (fun t => (lw 0 d).contains t) (whl 0 o) (whl d p))) = true := by decide +kernel
theorem sA_1 : ((rng 6).all fun d => !decide (1 < d) || ((rng 2).all fun o => (rng 2).all fun p => sP (fun t => (lw 1 d).contains t) (whl 1 o) (whl d p))) = true := by decide +kernel
theorem sA_2 : ((rng 6).all fun d => !decide (2 < d) || ((rng 2).all fun o => (rng 2).all fun p => sP (fun t => (lw 2 d).contains t) (whl 2 o) (whl d p))) = true := by decide +kernel
theorem sA_3 : ((rng 6).all fun d => !decide (3 < d) || ((rng 2).all fun o => (rng 2).all fun p => sP (fun t => (lw 3 d).contains t) (whl 3 o) (whl d p))) = true := by decide +kernel
theorem sA_4 : ((rng 6).all fun d => !decide (4 < d) || ((rng 2).all fun o => (rng 2).all fun p => sP (fun t => (lw 4 d).contains t) (whl 4 o) (whl d p))) = true := by decide +kernel
theorem sA_5 : ((rng 6).all fun d => !decide (5 < d) || ((rng 2).all fun o => (rng 2).all fun p => sP (fun t => (lw 5 d).contains t) (whl 5 o) (whl d p))) = true := by decide +kernel
theorem sB_1_0 : ((strang 1).all fun r => (rng 2).all fun o => sP (fun _ => true) r (whl 0 o)) = true := by decide +kernel
theorem sB_1_1 : ((strang 1).all fun r => (rng 2).all fun o => sP (fun _ => true) r (whl 1 o)) = true := by decide +kernel
theorem sB_1_2 : ((strang 1).all fun r => (rng 2).all fun o => sP (fun _ => true) r (whl 2 o)) = true := by decide +kernel
theorem sB_1_3 : ((strang 1).all fun r => (rng 2).all fun o => sP (fun _ => true) r (whl 3 o)) = true := by decide +kernel
theorem sB_1_4 : ((strang 1).all fun r => (rng 2).all fun o => sP (fun _ => true) r (whl 4 o)) = true := by decide +kernel
theorem sB_1_5 : ((strang 1).all fun r => (rng 2).all fun o => sP (fun _ => true) r (whl 5 o)) = true := by decide +kernel
theorem sB_2_0 : ((strang 2).all fun r => (rng 2).all fun o => sP (fun _ => true) r (whl 0 o)) = true := by decide +kernel
theorem sB_2_1 : ((strang 2).all fun r => (rng 2).all fun o => sP (fun _ => true) r (whl 1 o)) = true := by decide +kernel
theorem sB_2_2 : ((strang 2).all fun r => (rng 2).all fun o => sP (fun _ => true) r (whl 2 o)) = true := by decide +kernel
theorem sB_2_3 : ((strang 2).all fun r => (rng 2).all fun o => sP (fun _ => true) r (whl 3 o)) = true := by decide +kernel
theorem sB_2_4 : ((strang 2).all fun r => (rng 2).all fun o => sP (fun _ => true) r (whl 4 o)) = true := by decide +kernel
theorem sB_2_5 : ((strang 2).all fun r => (rng 2).all fun o => sP (fun _ => true) r (whl 5 o)) = true := by decide +kernel
theorem sB_3_0 : ((strang 3).all fun r => (rng 2).all fun o => sP (fun _ => true) r (whl 0 o)) = true := by decide +kernel
theorem sB_3_1 : ((strang 3).all fun r => (rng 2).all fun o => sP (fun _ => true) r (whl 1 o)) = true := by decide +kernel
theorem sB_3_2 : ((strang 3).all fun r => (rng 2).all fun o => sP (fun _ => true) r (whl 2 o)) = true := by decide +kernel
theorem sB_3_3 : ((strang 3).all fun r => (rng 2).all fun o => sP (fun _ => true) r (whl 3 o)) = true := by decide +kernel
theorem sB_3_4 : ((strang 3).all fun r => (rng 2).all fun o => sP (fun _ => true) r (whl 4 o)) = true := by decide +kernel
theorem sB_3_5 : ((strang 3).all fun r => (rng 2).all fun o => sP (fun _ => true) r (whl 5 o)) = true := by decide +kernel
theorem sB_4_0 : ((strang 4).all fun r => (rng 2).all fun o => sP (fun _ => true) r (whl 0 o)) = true := by decide +kernel
theorem sB_4_1 : ((strang 4).all fun r => (rng 2).all fun o => sP (fun _ => true) r (whl 1 o)) = true := by decide +kernel
theorem sB_4_2 : ((strang 4).all fun r => (rng 2).all fun o => sP (fun _ => true) r (whl 2 o)) = true := by decide +kernel
theorem sB_4_3 : ((strang 4).all fun r => (rng 2).all fun o => sP (fun _ => true) r (whl 3 o)) = true := by decide +kernel
theorem sB_4_4 : ((strang 4).all fun r => (rng 2).all fun o => sP (fun _ => true) r (whl 4 o)) = true := by decide +kernel
theorem sB_4_5 : ((strang 4).all fun r => (rng 2).all fun o => sP (fun _ => true) r (whl 5 o)) = true := by decide +kernel
end
section
noncomputable def clrB (x y : Int × Int) : Bool := decide (x.2 < y.1) || (decide (y.2 < x.1) || ((decide (x.1 < y.1) && decide (y.2 < x.2)) || (decide (y.1 < x.1) && decide (x.2 < y.2))))
theorem clr_all : ends21.all (fun x => ends21.all fun y => clr x y == clrB x y) = true := by decide +kernel
theorem clr_eq {x y : Int × Int} (hx : x ∈ ends21) (hy : y ∈ ends21) : clr x y = clrB x y := beq_iff_eq.mp (List.all_eq_true.mp (List.all_eq_true.mp clr_all x hx) y hy)
/-- pairs of a list, the earlier first, that r holds for -/
noncomputable def pcS {α : Type} (r : α → α → Bool) : List α → Nat
  | [] => 0
  | x :: xs => xs.countP (r x) + pcS r xs
theorem pcS_snoc {α : Type} (r : α → α → Bool) (t : α) : ∀ (xs : List α), pcS r (xs ++ [t]) = pcS r xs + xs.countP (fun x => r x t)
  | [] => rfl
  | x :: xs => by
    show (xs ++ [t]).countP (r x) + pcS r (xs ++ [t]) = xs.countP (r x) + pcS r xs + (x :: xs).countP (fun x => r x t)
    rw [pcS_snoc r t xs, List.countP_append, List.countP_cons, List.countP_cons, List.countP_nil]
    cases r x t <;> simp <;> omega
theorem pcS_congr {α : Type} {r s : α → α → Bool} : ∀ {xs : List α}, (∀ x ∈ xs, ∀ y ∈ xs, r x y = s x y) → pcS r xs = pcS s xs
  | [], _ => rfl
  | x :: xs, h => by
    show xs.countP (r x) + pcS r xs = xs.countP (s x) + pcS s xs
    rw [pcS_congr fun a ha b hb => h a (.tail _ ha) b (.tail _ hb), List.countP_congr fun y hy => by rw [h x (.head _) y (.tail _ hy)]]
theorem pcS_map {α β : Type} (f : α → β) (r : β → β → Bool) : ∀ (xs : List α), pcS r (xs.map f) = pcS (fun x y => r (f x) (f y)) xs
  | [] => rfl
  | x :: xs => by
    show (xs.map f).countP (r (f x)) + pcS r (xs.map f) = _
    rw [pcS_map f r xs, List.countP_map]; rfl
theorem pcS_filter {α : Type} (r : α → α → Bool) (p : α → Bool) : ∀ (xs : List α), pcS r (xs.filter p) = pcS (fun x y => p x && (p y && r x y)) xs
  | [] => rfl
  | x :: xs => by
    have ih := pcS_filter r p xs
    rw [List.filter_cons]
    cases hp : p x with
    | true =>
      show (xs.filter p).countP (r x) + pcS r (xs.filter p) = xs.countP (fun y => p x && (p y && r x y)) + pcS (fun x y => p x && (p y && r x y)) xs
      rw [ih, List.countP_filter, hp]
      congr 1
      exact List.countP_congr fun y _ => by simp [Bool.and_comm]
    | false =>
      show pcS r (xs.filter p) = xs.countP (fun y => p x && (p y && r x y)) + pcS (fun x y => p x && (p y && r x y)) xs
      rw [ih, hp, List.countP_eq_zero.mpr (fun y _ => by simp), Nat.zero_add]
theorem rng_succ (n : Nat) : rng (n + 1) = rng n ++ [(n : Int)] := by
  show (List.range (n + 1)).map _ = _
  rw [List.range_succ, List.map_append]; rfl
theorem rowFrom_len (ts : List (Int × Int)) (t : Int × Int) : (rowFrom (ts ++ [t]) ts.length (rng ts.length)).length = ts.countP (fun x => clr x t) := by
  unfold rowFrom
  rw [List.length_map, ← List.countP_eq_length_filter]
  have et : tsAt (ts ++ [t]) ts.length = t := by
    unfold tsAt; rw [List.getD_eq_getElem?_getD, Int.toNat_natCast, List.getElem?_append_right (Nat.le_refl _), Nat.sub_self]; rfl
  rw [et]
  have key : ∀ (n : Nat), n ≤ ts.length → (rng n).countP (fun j => clr (tsAt (ts ++ [t]) j) t) = (ts.take n).countP (fun x => clr x t) := by
    intro n
    induction n with
    | zero => intro _; rfl
    | succ n ih =>
      intro hn
      have hlt : n < ts.length := hn
      rw [rng_succ, List.countP_append, ih (by omega), List.take_add_one, List.countP_append, List.getElem?_eq_getElem hlt]
      congr 1
      show List.countP _ [(n : Int)] = List.countP _ [ts[n]]
      have e : tsAt (ts ++ [t]) n = ts[n] := by
        unfold tsAt; rw [List.getD_eq_getElem?_getD, Int.toNat_natCast, List.getElem?_append_left hlt, List.getElem?_eq_getElem hlt]; rfl
      rw [List.countP_cons, List.countP_cons, e]; rfl
  have := key ts.length (Nat.le_refl _)
  rw [List.take_length] at this
  exact this
theorem flat_len_congr {α β : Type} {f g : α → List β} : ∀ {l : List α}, (∀ x ∈ l, f x = g x) → l.flatMap f = l.flatMap g
  | [], _ => rfl
  | x :: l, h => by rw [List.flatMap_cons, List.flatMap_cons, h x (.head _), flat_len_congr fun y hy => h y (.tail _ hy)]
theorem clearOf_snoc (ts : List (Int × Int)) (t : Int × Int) : (clearOf (ts ++ [t])).length = (clearOf ts).length + ts.countP (fun x => clr x t) := by
  unfold clearOf
  rw [List.length_append, List.length_singleton, rng_succ, List.flatMap_append, List.length_append]
  congr 1
  · congr 1
    refine flat_len_congr fun k hk => ?_
    obtain ⟨k0, k1⟩ := mem_rng hk
    have eq : ∀ i : Int, 0 ≤ i → i < ts.length → tsAt (ts ++ [t]) i = tsAt ts i := fun i i0 i1 => by
      unfold tsAt; rw [List.getD_eq_getElem?_getD, List.getElem?_append_left (by omega), ← List.getD_eq_getElem?_getD]
    unfold rowOf rowFrom
    rw [eq k k0 k1]
    have hj : ∀ j ∈ rng k.toNat, tsAt (ts ++ [t]) j = tsAt ts j := fun j hj => by
      obtain ⟨j0, j1⟩ := mem_rng hj
      exact eq j j0 (by omega)
    rw [List.filter_congr fun j h => by rw [hj j h]]
    exact List.map_congr_left fun j h => by rw [hj j (List.mem_filter.mp h).1]
  · rw [List.flatMap_cons, List.flatMap_nil, List.append_nil]
    unfold rowOf
    rw [Int.toNat_natCast]
    exact rowFrom_len ts t
theorem clearOf_pc : ∀ (n : Nat) (ts : List (Int × Int)), ts.length = n → (clearOf ts).length = pcS clr ts
  | 0, ts, h => by rw [List.length_eq_zero_iff.mp h]; rfl
  | n + 1, ts, h => by
    rcases List.eq_nil_or_concat ts with rfl | ⟨us, t, rfl⟩
    · cases h
    · rw [List.concat_eq_append] at h ⊢
      rw [List.length_append, List.length_singleton] at h
      rw [clearOf_snoc, pcS_snoc, clearOf_pc n us (by omega)]
end
section
theorem pcS_three {v : Int → Int} {r : Int → Int → Bool} : ∀ {xs : List Int}, (∀ x ∈ xs, v x = 0 ∨ v x = 1 ∨ v x = 2) →
    pcS (fun x y => (v x == 0) && ((v y == 0) && r x y)) xs + (pcS (fun x y => (v x == 1) && ((v y == 1) && r x y)) xs + pcS (fun x y => (v x == 2) && ((v y == 2) && r x y)) xs) = pcS (fun x y => (v x == v y) && r x y) xs
  | [], _ => rfl
  | x :: xs, h => by
    have ih := pcS_three (v := v) (r := r) (xs := xs) fun y hy => h y (.tail _ hy)
    have hx := h x (.head _)
    have key : xs.countP (fun y => (v x == 0) && ((v y == 0) && r x y)) + (xs.countP (fun y => (v x == 1) && ((v y == 1) && r x y)) + xs.countP (fun y => (v x == 2) && ((v y == 2) && r x y))) = xs.countP (fun y => (v x == v y) && r x y) := by
      have z : ∀ (p : Int → Bool), xs.countP (fun y => false && p y) = 0 := fun p => List.countP_eq_zero.mpr fun y _ => by simp
      have c : ∀ k : Int, xs.countP (fun y => true && ((v y == k) && r x y)) = xs.countP (fun y => (k == v y) && r x y) := fun k => List.countP_congr fun y _ => by rw [Bool.true_and, BEq.comm]
      rcases hx with e | e | e <;> rw [e]
      · show xs.countP (fun y => true && _) + (xs.countP (fun y => false && _) + xs.countP (fun y => false && _)) = _
        rw [z, z, c]; rfl
      · show xs.countP (fun y => false && _) + (xs.countP (fun y => true && _) + xs.countP (fun y => false && _)) = _
        rw [z, z, c]; omega
      · show xs.countP (fun y => false && _) + (xs.countP (fun y => false && _) + xs.countP (fun y => true && _)) = _
        rw [z, z, c]; omega
    show (xs.countP (fun y => (v x == 0) && ((v y == 0) && r x y)) + pcS (fun x y => (v x == 0) && ((v y == 0) && r x y)) xs) + ((xs.countP (fun y => (v x == 1) && ((v y == 1) && r x y)) + pcS (fun x y => (v x == 1) && ((v y == 1) && r x y)) xs) + (xs.countP (fun y => (v x == 2) && ((v y == 2) && r x y)) + pcS (fun x y => (v x == 2) && ((v y == 2) && r x y)) xs)) = xs.countP (fun y => (v x == v y) && r x y) + pcS (fun x y => (v x == v y) && r x y) xs
    omega
noncomputable def allPairs (r : Int → Int → Bool) : List Int → List (Int × Int)
  | [] => []
  | x :: xs => (xs.filter (r x)).map (fun y => (x, y)) ++ allPairs r xs
theorem pcS_pairs {s r : Int → Int → Bool} : ∀ (xs : List Int), pcS (fun x y => s x y && r x y) xs = (allPairs r xs).countP (fun p => s p.1 p.2)
  | [] => rfl
  | x :: xs => by
    show xs.countP (fun y => s x y && r x y) + pcS (fun x y => s x y && r x y) xs = ((xs.filter (r x)).map (fun y => (x, y)) ++ allPairs r xs).countP _
    rw [List.countP_append, List.countP_map, List.countP_filter, pcS_pairs xs]; rfl
noncomputable abbrev rB (x y : Int) : Bool := clrB (tie x) (tie y)
noncomputable def p70 : List (Int × Int) := allPairs rB (rng 21)
noncomputable def mono (v : Int → Int) (ps : List (Int × Int)) : Nat := ps.countP fun p => v p.1 == v p.2
noncomputable abbrev vOf (ls : List Int) (k : Int) : Int := ls.getD k.toNat 0
theorem tie_mem {k : Int} (h : k ∈ rng 21) : tie k ∈ ends21 := by
  obtain ⟨h0, h1⟩ := mem_rng h
  exact (show ∀ {k : Int}, 0 ≤ k → k < 21 → tie k ∈ ends21 from fun {k} k0 k1 => by
    have hl : k.toNat < ends21.length := by show k.toNat < 21; omega
    rw [tie, List.getD_eq_getElem?_getD, List.getElem?_eq_getElem hl]; exact List.getElem_mem hl) h0 h1
theorem pairs_mono {ls : List Int} (h : ∀ k ∈ rng 21, vOf ls k = 0 ∨ vOf ls k = 1 ∨ vOf ls k = 2) : (pairsOf ls).length = mono (vOf ls) p70 := by
  have one : ∀ tone : Int, (clearOf (tiesOf ls tone)).length = pcS (fun x y => (vOf ls x == tone) && ((vOf ls y == tone) && rB x y)) (rng 21) := fun tone => by
    rw [clearOf_pc _ _ rfl]
    unfold tiesOf ofLight
    rw [pcS_map, pcS_filter]
    exact pcS_congr fun x hx y hy => by rw [clr_eq (tie_mem hx) (tie_mem hy)]
  have e : (pairsOf ls).length = (clearOf (tiesOf ls 0)).length + ((clearOf (tiesOf ls 1)).length + (clearOf (tiesOf ls 2)).length) := by
    show (clearOf (tiesOf ls 0) ++ (clearOf (tiesOf ls 1) ++ (clearOf (tiesOf ls 2) ++ []))).length = _
    rw [List.append_nil, List.length_append, List.length_append]
  rw [e, one, one, one, pcS_three h, pcS_pairs (s := fun x y => vOf ls x == vOf ls y)]
  rfl

/-! the same by fours -/
noncomputable def quads : List (Int × Int × Int × Int) := (rng 7).flatMap fun a => (rngF (a + 1) 7).flatMap fun b => (rngF (b + 1) 7).flatMap fun c => (rngF (c + 1) 7).map fun d => (a, b, c, d)
noncomputable abbrev q4' (T : List (List Int)) (q : Int × Int × Int × Int) : Int := q4 T q.1 q.2.1 q.2.2.1 q.2.2.2
theorem foldl_sum {α : Type} (f : α → Int) : ∀ (l : List α) (n : Int), l.foldl (fun n d => n + f d) n = n + (l.map f).sum
  | [], n => (Int.add_zero n).symm
  | x :: l, n => by rw [List.foldl_cons, foldl_sum f l, List.map_cons, List.sum_cons, Int.add_assoc]
theorem foldl_flat {α β : Type} (g : β → Int) (h : α → List β) (f : Int → α → Int) (hf : ∀ n a, f n a = n + ((h a).map g).sum) : ∀ (l : List α) (n : Int), l.foldl f n = n + ((l.flatMap h).map g).sum
  | [], n => (Int.add_zero n).symm
  | x :: l, n => by rw [List.foldl_cons, foldl_flat g h f hf l, hf, List.flatMap_cons, List.map_append, List.sum_append, Int.add_assoc]
theorem fours_sum (T : List (List Int)) : foursT T = (quads.map (q4' T)).sum := by
  have hD : ∀ a b c n ds, sumD T a b c n ds = n + ((ds.map fun d => (a, b, c, d)).map (q4' T)).sum := fun a b c n ds => by
    unfold sumD; rw [foldl_sum, List.map_map]; rfl
  have hC : ∀ a b n cs, sumC T a b n cs = n + ((cs.flatMap fun c => (rngF (c + 1) 7).map fun d => (a, b, c, d)).map (q4' T)).sum := fun a b n cs => by
    unfold sumC; exact foldl_flat _ _ _ (fun n c => hD a b c n (rngF (c + 1) 7)) cs n
  have hB : ∀ a n bs, sumB T a n bs = n + ((bs.flatMap fun b => (rngF (b + 1) 7).flatMap fun c => (rngF (c + 1) 7).map fun d => (a, b, c, d)).map (q4' T)).sum := fun a n bs => by
    unfold sumB; exact foldl_flat _ _ _ (fun n b => hC a b n (rngF (b + 1) 7)) bs n
  have hA : foursT T = 0 + (quads.map (q4' T)).sum := by
    unfold foursT sumA quads
    exact foldl_flat _ _ _ (fun n a => hB a n (rngF (a + 1) 7)) (rng 7) 0
  rw [hA, Int.zero_add]
noncomputable def ix (a b : Int) : Int := (ends21.idxOf (a, b) : Nat)
theorem tab_at (ls : List Int) : ∀ e ∈ ends21, at2 (tabOf ls) e.1 e.2 = vOf ls (ix e.1 e.2) := by
  intro e he
  have hm : e = (0, 1) ∨ e = (0, 2) ∨ e = (0, 3) ∨ e = (0, 4) ∨ e = (0, 5) ∨ e = (0, 6) ∨ e = (1, 2) ∨ e = (1, 3) ∨ e = (1, 4) ∨ e = (1, 5) ∨ e = (1, 6) ∨ e = (2, 3) ∨ e = (2, 4) ∨ e = (2, 5) ∨ e = (2, 6) ∨ e = (3, 4) ∨ e = (3, 5) ∨ e = (3, 6) ∨ e = (4, 5) ∨ e = (4, 6) ∨ e = (5, 6) := by
    simpa [ends21] using he
  rcases hm with rfl | rfl | rfl | rfl | rfl | rfl | rfl | rfl | rfl | rfl | rfl | rfl | rfl | rfl | rfl | rfl | rfl | rfl | rfl | rfl | rfl <;> kernel_rfl
noncomputable def f70 : List (Int × Int) := quads.map (fun q => (ix q.1 q.2.1, ix q.2.2.1 q.2.2.2)) ++ quads.map (fun q => (ix q.1 q.2.2.2, ix q.2.1 q.2.2.1))
theorem quads_in : quads.all (fun q => ends21.contains (q.1, q.2.1) && (ends21.contains (q.2.2.1, q.2.2.2) && (ends21.contains (q.1, q.2.2.2) && ends21.contains (q.2.1, q.2.2.1)))) = true := by decide +kernel
theorem ind_sum {α : Type} (p : α → Bool) : ∀ (l : List α), (l.map fun x => (bif p x then 1 else 0 : Int)).sum = (l.countP p : Nat)
  | [] => rfl
  | x :: l => by
    rw [List.map_cons, List.sum_cons, ind_sum p l, List.countP_cons]
    cases p x <;> simp <;> omega
theorem sum_add {α : Type} (f g : α → Int) : ∀ (l : List α), (l.map fun x => f x + g x).sum = (l.map f).sum + (l.map g).sum
  | [] => rfl
  | x :: l => by simp only [List.map_cons, List.sum_cons, sum_add f g l]; omega
theorem fours_mono (ls : List Int) : foursOf ls = (mono (vOf ls) f70 : Nat) := by
  unfold foursOf
  rw [fours_sum]
  have e : quads.map (q4' (tabOf ls)) = quads.map (fun q => (bif vOf ls (ix q.1 q.2.1) == vOf ls (ix q.2.2.1 q.2.2.2) then 1 else 0 : Int) + (bif vOf ls (ix q.1 q.2.2.2) == vOf ls (ix q.2.1 q.2.2.1) then 1 else 0 : Int)) := List.map_congr_left fun q hq => by
    have := List.all_eq_true.mp quads_in q hq
    simp only [Bool.and_eq_true, List.contains_iff_mem] at this
    obtain ⟨h1, h2, h3, h4⟩ := this
    have t1 := tab_at ls _ h1
    have t2 := tab_at ls _ h2
    have t3 := tab_at ls _ h3
    have t4 := tab_at ls _ h4
    show q4 _ _ _ _ _ = _
    unfold q4
    rw [t1, t2, t3, t4]
  rw [e, sum_add, ind_sum, ind_sum]
  unfold mono f70
  rw [List.countP_append, List.countP_map, List.countP_map, Int.natCast_add]; rfl
theorem perm70 : f70.isPerm p70 = true := by decide +kernel
theorem mono_eq (v : Int → Int) : mono v f70 = mono v p70 := (List.isPerm_iff.mp perm70).countP_eq _
end
section
noncomputable def order21 : List Int := [5, 18, 6, 15, 11, 0, 20, 13, 3, 9, 8, 17, 1, 10, 19, 12, 2, 7, 4, 14, 16]
noncomputable def steps21 : List (List Nat) := [[], [0], [0, 1], [0, 2], [2, 3], [0, 1, 3], [0, 1, 2, 3], [1, 3, 6], [1, 3, 5], [4, 5, 8], [3, 5, 9], [5, 8, 9], [0, 5, 8, 10], [5, 8, 9, 11], [1, 8, 9, 11], [1, 5, 8, 9, 14], [1, 9, 13, 14], [2, 8, 10, 15, 16], [0, 2, 7, 13, 14, 15], [13, 15, 17], [0, 6, 7, 14, 17, 19]]
noncomputable def hits (vals : List Int) (c : Int) (s : List Nat) : Nat := s.countP fun d => vals.getD d 9 == c
/-- every painting on from here has b more hits -/
noncomputable def hunt : List (List Nat) → List Int → Nat → Bool
  | [], _, b => b == 0
  | s :: ss, vals, b => [0, 1, 2].all fun c => bif Nat.ble b (hits vals c s) then true else hunt ss (c :: vals) (b - hits vals c s)
noncomputable def hitsAll : List (List Nat) → List Int → List Int → Nat
  | s :: ss, vals, c :: cs => hits vals c s + hitsAll ss (c :: vals) cs
  | _, _, _ => 0
theorem hunt_ok : ∀ (ss : List (List Nat)) (vals cs : List Int) (b : Nat), hunt ss vals b = true → cs.length = ss.length → (∀ c ∈ cs, c = 0 ∨ c = 1 ∨ c = 2) → b ≤ hitsAll ss vals cs
  | [], _, _, b, h, _, _ => by
    have : b = 0 := by simpa [hunt] using h
    omega
  | s :: ss, vals, [], b, _, hl, _ => by cases hl
  | s :: ss, vals, c :: cs, b, h, hl, hc => by
    have h0 : (bif Nat.ble b (hits vals c s) then true else hunt ss (c :: vals) (b - hits vals c s)) = true := by
      refine List.all_eq_true.mp h c ?_
      rcases hc c (.head _) with rfl | rfl | rfl <;> simp
    show b ≤ hits vals c s + hitsAll ss (c :: vals) cs
    cases hb : Nat.ble b (hits vals c s) with
    | true => exact Nat.le_trans (Nat.le_of_ble_eq_true hb) (Nat.le_add_right ..)
    | false =>
      rw [hb] at h0
      have := hunt_ok ss (c :: vals) cs (b - hits vals c s) h0 (by simpa using hl) fun x hx => hc x (.tail _ hx)
      omega
noncomputable def hitPairs : List (List Nat) → List Int → List Int → List (Int × Int)
  | s :: ss, xs, y :: ys => s.map (fun d => (xs.getD d 0, y)) ++ hitPairs ss (y :: xs) ys
  | _, _, _ => []
noncomputable def stepsIn : List (List Nat) → Nat → Bool
  | [], _ => true
  | s :: ss, n => s.all (fun d => Nat.blt d n) && stepsIn ss (n + 1)
theorem hits_pairs (v : Int → Int) : ∀ (ss : List (List Nat)) (xs ys : List Int), stepsIn ss xs.length = true → hitsAll ss (xs.map v) (ys.map v) = mono v (hitPairs ss xs ys)
  | [], _, _, _ => by unfold hitsAll hitPairs; rfl
  | s :: ss, xs, [], _ => by unfold hitsAll hitPairs; rfl
  | s :: ss, xs, y :: ys, h => by
    unfold stepsIn at h
    rw [Bool.and_eq_true] at h
    have ih := hits_pairs v ss (y :: xs) ys h.2
    show hits (xs.map v) (v y) s + hitsAll ss ((y :: xs).map v) (ys.map v) = mono v (s.map (fun d => (xs.getD d 0, y)) ++ hitPairs ss (y :: xs) ys)
    rw [ih]
    unfold mono hits
    rw [List.countP_append, List.countP_map]
    congr 1
    refine List.countP_congr fun d hd => ?_
    have hlt : d < xs.length := by
      have := List.all_eq_true.mp h.1 d hd
      simpa [Nat.blt_eq] using this
    show ((xs.map v).getD d 9 == v y) = true ↔ (v (xs.getD d 0) == v y) = true
    rw [List.getD_eq_getElem?_getD, List.getElem?_map, List.getElem?_eq_getElem hlt, List.getD_eq_getElem?_getD, List.getElem?_eq_getElem hlt]; rfl
noncomputable def norm (p : Int × Int) : Int × Int := bif decide (p.1 ≤ p.2) then p else (p.2, p.1)
theorem mono_norm (v : Int → Int) (ps : List (Int × Int)) : mono v (ps.map norm) = mono v ps := by
  unfold mono
  rw [List.countP_map]
  refine List.countP_congr fun p _ => ?_
  show (v (norm p).1 == v (norm p).2) = true ↔ (v p.1 == v p.2) = true
  unfold norm
  cases decide (p.1 ≤ p.2) with
  | true => exact Iff.rfl
  | false =>
    show (v p.2 == v p.1) = true ↔ (v p.1 == v p.2) = true
    rw [BEq.comm]
theorem hunt21 : hunt steps21 [] 3 = true := by decide +kernel
theorem steps_in : stepsIn steps21 0 = true := by decide +kernel
theorem perm21 : ((hitPairs steps21 [] order21).map norm).isPerm p70 = true := by decide +kernel
theorem order_in : order21.all (fun k => (rng 21).contains k) = true := by decide +kernel
theorem three {v : Int → Int} (h : ∀ k ∈ rng 21, v k = 0 ∨ v k = 1 ∨ v k = 2) : 3 ≤ mono v p70 := by
  have e : mono v p70 = mono v ((hitPairs steps21 [] order21).map norm) := ((List.isPerm_iff.mp perm21).countP_eq _).symm
  rw [e, mono_norm, ← hits_pairs v steps21 [] order21 steps_in]
  refine hunt_ok steps21 [] (order21.map v) 3 hunt21 (by rw [List.length_map]; rfl) fun c hc => ?_
  obtain ⟨k, hk, rfl⟩ := List.mem_map.mp hc
  exact h k (List.contains_iff_mem.mp (List.all_eq_true.mp order_in k hk))
end
section
noncomputable def sOf (x y : Row) : Int × Int × Int := (pAt x 0 + pAt y 0, pAt x 1 + pAt y 1, pAt x 2 + pAt y 2)
theorem sP_eq {p : Int → Bool} {x y : Row} (h : sP p x y = true) : sumOk (sOf x y) = true ∧ p (third (hl3 (sOf x y))) = true := sumF_eq h
theorem sOf_comm (x y : Row) : sOf x y = sOf y x := by unfold sOf; rw [Int.add_comm (pAt x 0), Int.add_comm (pAt x 1), Int.add_comm (pAt x 2)]
theorem in_rng {k : Int} {n : Nat} (h0 : 0 ≤ k) (h1 : k < n) : k ∈ rng n := List.mem_map.mpr ⟨k.toNat, List.mem_range.mpr (by omega), by omega⟩
theorem wheels {c d o p : Int} (c0 : 0 ≤ c) (cd : c < d) (d6 : d < 6) (ho : o ∈ rng 2) (hp : p ∈ rng 2) : sumOk (sOf (whl c o) (whl d p)) = true ∧ (lw c d).contains (third (hl3 (sOf (whl c o) (whl d p)))) = true := by
  have key : (!decide (c < d) || ((rng 2).all fun o => (rng 2).all fun p => sP (fun t => (lw c d).contains t) (whl c o) (whl d p))) = true := by
    rcases in6 c0 (by omega) with rfl | rfl | rfl | rfl | rfl | rfl
    · exact List.all_eq_true.mp sA_0 d (in_rng (by omega) (by omega))
    · exact List.all_eq_true.mp sA_1 d (in_rng (by omega) (by omega))
    · exact List.all_eq_true.mp sA_2 d (in_rng (by omega) (by omega))
    · exact List.all_eq_true.mp sA_3 d (in_rng (by omega) (by omega))
    · exact List.all_eq_true.mp sA_4 d (in_rng (by omega) (by omega))
    · exact List.all_eq_true.mp sA_5 d (in_rng (by omega) (by omega))
  rw [decide_eq_true cd, Bool.not_true, Bool.false_or] at key
  exact sP_eq (List.all_eq_true.mp (List.all_eq_true.mp key o ho) p hp)
theorem white : ((rng 6).all fun c => [1, 2, 3, 4].all fun q => (rng 3).all fun i => pAt (c, q, 0) i == pAt (0, q, 0) i) = true := by decide +kernel
theorem stranger_sum {c q h d o : Int} (hc : 0 ≤ c ∧ c < 6) (hq : 1 ≤ q ∧ q ≤ 4) (hh : 0 ≤ h ∧ h ≤ 2) (hd : 0 ≤ d ∧ d < 6) (ho : o ∈ rng 2) : sumOk (sOf (c, q, h) (whl d o)) = true := by
  have key : ∀ r ∈ strang q, sP (fun _ => true) r (whl d o) = true := fun r hr => by
    have hq' := in4 hq.1 hq.2
    rcases hq' with rfl | rfl | rfl | rfl <;> rcases in6 hd.1 hd.2 with rfl | rfl | rfl | rfl | rfl | rfl
    · exact List.all_eq_true.mp (List.all_eq_true.mp sB_1_0 r hr) o ho
    · exact List.all_eq_true.mp (List.all_eq_true.mp sB_1_1 r hr) o ho
    · exact List.all_eq_true.mp (List.all_eq_true.mp sB_1_2 r hr) o ho
    · exact List.all_eq_true.mp (List.all_eq_true.mp sB_1_3 r hr) o ho
    · exact List.all_eq_true.mp (List.all_eq_true.mp sB_1_4 r hr) o ho
    · exact List.all_eq_true.mp (List.all_eq_true.mp sB_1_5 r hr) o ho
    · exact List.all_eq_true.mp (List.all_eq_true.mp sB_2_0 r hr) o ho
    · exact List.all_eq_true.mp (List.all_eq_true.mp sB_2_1 r hr) o ho
    · exact List.all_eq_true.mp (List.all_eq_true.mp sB_2_2 r hr) o ho
    · exact List.all_eq_true.mp (List.all_eq_true.mp sB_2_3 r hr) o ho
    · exact List.all_eq_true.mp (List.all_eq_true.mp sB_2_4 r hr) o ho
    · exact List.all_eq_true.mp (List.all_eq_true.mp sB_2_5 r hr) o ho
    · exact List.all_eq_true.mp (List.all_eq_true.mp sB_3_0 r hr) o ho
    · exact List.all_eq_true.mp (List.all_eq_true.mp sB_3_1 r hr) o ho
    · exact List.all_eq_true.mp (List.all_eq_true.mp sB_3_2 r hr) o ho
    · exact List.all_eq_true.mp (List.all_eq_true.mp sB_3_3 r hr) o ho
    · exact List.all_eq_true.mp (List.all_eq_true.mp sB_3_4 r hr) o ho
    · exact List.all_eq_true.mp (List.all_eq_true.mp sB_3_5 r hr) o ho
    · exact List.all_eq_true.mp (List.all_eq_true.mp sB_4_0 r hr) o ho
    · exact List.all_eq_true.mp (List.all_eq_true.mp sB_4_1 r hr) o ho
    · exact List.all_eq_true.mp (List.all_eq_true.mp sB_4_2 r hr) o ho
    · exact List.all_eq_true.mp (List.all_eq_true.mp sB_4_3 r hr) o ho
    · exact List.all_eq_true.mp (List.all_eq_true.mp sB_4_4 r hr) o ho
    · exact List.all_eq_true.mp (List.all_eq_true.mp sB_4_5 r hr) o ho
  have hh' : h = 0 ∨ h = 1 ∨ h = 2 := by omega
  have hcm : c ∈ rng 6 := in_rng hc.1 hc.2
  rcases hh' with rfl | rfl | rfl
  · have hqm : q ∈ ([1, 2, 3, 4] : List Int) := by
      have := in4 hq.1 hq.2
      simpa using this
    have w : ∀ i ∈ rng 3, pAt (c, q, 0) i = pAt (0, q, 0) i := fun i hi => beq_iff_eq.mp (List.all_eq_true.mp (List.all_eq_true.mp (List.all_eq_true.mp white c hcm) q hqm) i hi)
    have e : sOf (c, q, 0) (whl d o) = sOf (0, q, 0) (whl d o) := by
      unfold sOf
      rw [w 0 (by decide), w 1 (by decide), w 2 (by decide)]
    rw [e]
    exact (sP_eq (key (0, q, 0) (.head _))).1
  · exact (sP_eq (key (c, q, 1) (.tail _ (List.mem_flatMap.mpr ⟨c, hcm, by simp⟩)))).1
  · exact (sP_eq (key (c, q, 2) (.tail _ (List.mem_flatMap.mpr ⟨c, hcm, by simp⟩)))).1
theorem row_ok {c q h : Int} (hc : 0 ≤ c ∧ c < 6) (hq : 1 ≤ q ∧ q ≤ 4) (hh : 0 ≤ h ∧ h ≤ 2) : RowIs (c, q, h) := by
  have hqm : q ∈ ([1, 2, 3, 4] : List Int) := by
    have := in4 hq.1 hq.2
    simpa using this
  exact RowIs.of (List.all_eq_true.mp (List.all_eq_true.mp (List.all_eq_true.mp rows_ok c (in_rng hc.1 hc.2)) q hqm) h (in_rng hh.1 (by omega)))

/-! the ring -/
noncomputable def oddAt (l : List Int) (c : Int) : Int := (oddsOf l).getD c.toNat 0
theorem odd_in (l : List Int) (c : Int) : oddAt l c ∈ rng 2 := by
  have key : ∀ x ∈ oddsOf l, 0 ≤ x ∧ x < 2 := fun x hx => by
    unfold oddsOf at hx
    rcases List.mem_append.mp hx with h | h
    · obtain ⟨y, _, rfl⟩ := List.mem_map.mp h
      exact ⟨fmod_nonneg y (by decide), fmod_lt y (by decide)⟩
    · rw [(List.mem_replicate.mp h).2]; decide
  unfold oddAt
  rw [List.getD_eq_getElem?_getD]
  cases e : (oddsOf l)[c.toNat]? with
  | none => exact in_rng (by decide) (by decide)
  | some x =>
    obtain ⟨h0, h1⟩ := key x (List.mem_of_getElem? e)
    exact in_rng h0 h1
theorem gap_in (l : List Int) : 0 ≤ gapOf l ∧ gapOf l < 7 := ⟨fmod_nonneg _ (by decide), fmod_lt _ (by decide)⟩
theorem ring_at (l : List Int) {i : Int} (i0 : 0 ≤ i) (i1 : i < 7) : (i < gapOf l → rAt (ringOf l) i = whl i (oddAt l i)) ∧ (i = gapOf l → rAt (ringOf l) i = strangerOf l) ∧ (gapOf l < i → rAt (ringOf l) i = whl (i - 1) (oddAt l (i - 1))) := by
  obtain ⟨g0, g1⟩ := gap_in l
  unfold ringOf
  generalize gapOf l = g at *
  have hg := in7 g0 g1
  have hi := in7 i0 i1
  rcases hg with rfl | rfl | rfl | rfl | rfl | rfl | rfl <;> rcases hi with rfl | rfl | rfl | rfl | rfl | rfl | rfl <;>
    exact ⟨fun h => by first | (exact absurd h (by decide)) | rfl, fun h => by first | (exact absurd h (by decide)) | rfl, fun h => by first | (exact absurd h (by decide)) | rfl⟩
theorem stranger_in (l : List Int) : (0 ≤ (strangerOf l).1 ∧ (strangerOf l).1 < 6) ∧ (1 ≤ (strangerOf l).2.1 ∧ (strangerOf l).2.1 ≤ 4) ∧ (0 ≤ (strangerOf l).2.2 ∧ (strangerOf l).2.2 ≤ 2) := by
  have h1 := fmod_nonneg (numOf l) (b := 6) (by decide)
  have h2 := fmod_lt (numOf l) (b := 6) (by decide)
  have h3 := fmod_nonneg ((numOf l).fdiv 6) (b := 4) (by decide)
  have h4 := fmod_lt ((numOf l).fdiv 6) (b := 4) (by decide)
  have h5 := fmod_nonneg ((numOf l).fdiv 24) (b := 3) (by decide)
  have h6 := fmod_lt ((numOf l).fdiv 24) (b := 3) (by decide)
  unfold strangerOf
  refine ⟨⟨h1, h2⟩, ⟨?_, ?_⟩, ⟨h5, ?_⟩⟩
  · show 1 ≤ ((numOf l).fdiv 6).fmod 4 + 1; omega
  · show ((numOf l).fdiv 6).fmod 4 + 1 ≤ 4; omega
  · show ((numOf l).fdiv 24).fmod 3 ≤ 2; omega
theorem whl_row {c o : Int} (hc : 0 ≤ c ∧ c < 6) (ho : o ∈ rng 2) : RowIs (whl c o) := by
  obtain ⟨o0, o1⟩ := mem_rng ho
  have h1 := fmod_nonneg c (b := 2) (by decide)
  have h2 := fmod_lt c (b := 2) (by decide)
  exact row_ok hc (by omega) (by decide)
noncomputable def cor (g i : Int) : Int := bif decide (i < g) then i else i - 1
theorem ring_cor (l : List Int) {i : Int} (i0 : 0 ≤ i) (i1 : i < 7) (hi : i ≠ gapOf l) : rAt (ringOf l) i = whl (cor (gapOf l) i) (oddAt l (cor (gapOf l) i)) ∧ 0 ≤ cor (gapOf l) i ∧ cor (gapOf l) i < 6 := by
  obtain ⟨h1, _, h3⟩ := ring_at l i0 i1
  obtain ⟨g0, g1⟩ := gap_in l
  unfold cor
  by_cases h : i < gapOf l
  · rw [decide_eq_true h]; exact ⟨h1 h, i0, by show i < 6; omega⟩
  · rw [decide_eq_false h]; exact ⟨h3 (by omega), by show 0 ≤ i - 1; omega, by show i - 1 < 6; omega⟩
theorem cor_lt {g i j : Int} (h : i < j) (hi : i ≠ g) (hj : j ≠ g) : cor g i < cor g j := by
  unfold cor
  by_cases h1 : i < g <;> by_cases h2 : j < g
  · rw [decide_eq_true h1, decide_eq_true h2]; exact h
  · rw [decide_eq_true h1, decide_eq_false h2]; show i < j - 1; omega
  · omega
  · rw [decide_eq_false h1, decide_eq_false h2]; show i - 1 < j - 1; omega
theorem lawOk {l : List Int} (hl : l.length ≤ 63) : LawOk l := by
  have s := stranger_in l
  refine ⟨hl, fun r hr => ?_, fun e he => ?_⟩
  · obtain ⟨k, hk, rfl⟩ := List.mem_iff_getElem.mp hr
    have hk7 : k < 7 := by rw [ring_len] at hk; exact hk
    have e : rAt (ringOf l) (k : Int) = (ringOf l)[k] := by unfold rAt; rw [Int.toNat_natCast, List.getD_eq_getElem?_getD, List.getElem?_eq_getElem hk]; rfl
    rw [← e]
    by_cases h : (k : Int) = gapOf l
    · rw [((ring_at l (i := k) (by omega) (by omega)).2.1 h)]
      exact row_ok s.1 s.2.1 s.2.2
    · obtain ⟨e1, c0, c1⟩ := ring_cor l (i := k) (by omega) (by omega) h
      rw [e1]; exact whl_row ⟨c0, c1⟩ (odd_in l _)
  · obtain ⟨a0, ab, b7⟩ := end_in he
    show sumOk (sOf (rAt (ringOf l) e.1) (rAt (ringOf l) e.2)) = true
    by_cases h1 : e.1 = gapOf l
    · have h2 : e.2 ≠ gapOf l := by omega
      obtain ⟨q2, c0, c1⟩ := ring_cor l (i := e.2) (by omega) b7 h2
      rw [(ring_at l a0 (by omega)).2.1 h1, q2]
      exact stranger_sum s.1 s.2.1 s.2.2 ⟨c0, c1⟩ (odd_in l _)
    · obtain ⟨q1, c0, c1⟩ := ring_cor l (i := e.1) a0 (by omega) h1
      by_cases h2 : e.2 = gapOf l
      · rw [(ring_at l (i := e.2) (by omega) b7).2.1 h2, q1, sOf_comm]
        exact stranger_sum s.1 s.2.1 s.2.2 ⟨c0, c1⟩ (odd_in l _)
      · obtain ⟨q2, d0, d1⟩ := ring_cor l (i := e.2) (by omega) b7 h2
        rw [q1, q2]
        exact (wheels c0 (cor_lt ab h1 h2) d1 (odd_in l _) (odd_in l _)).1
end
section
noncomputable abbrev in3 (x : Int) : Prop := x = 0 ∨ x = 1 ∨ x = 2
theorem in3_fmod (x : Int) : in3 (x.fmod 3) := by
  have h1 := fmod_nonneg x (b := 3) (by decide)
  have h2 := fmod_lt x (b := 3) (by decide)
  unfold in3; omega
theorem paint_at {ls : List Int} (hl : ls.length = 21) (x : Int) {k : Int} (hk : k ∈ rng 21) : vOf (paint ls x) k = if x.fmod 21 = k then (x.fdiv 21).fmod 3 else vOf ls k := by
  obtain ⟨k0, k1⟩ := mem_rng hk
  have h1 := fmod_nonneg x (b := 21) (by decide)
  have h2 := fmod_lt x (b := 21) (by decide)
  unfold vOf paint
  rw [List.getD_eq_getElem?_getD, List.getElem?_set]
  by_cases h : x.fmod 21 = k
  · rw [if_pos (by rw [h]), if_pos (by omega), if_pos h]; rfl
  · rw [if_neg (fun e => h (by omega)), if_neg h, ← List.getD_eq_getElem?_getD]
theorem anew_in : ∀ (ns ls : List Int), ls.length = 21 → (∀ k ∈ rng 21, in3 (vOf ls k)) → ∀ k ∈ rng 21, in3 (vOf (anewOf ls ns) k)
  | [], _, _, h => h
  | x :: ns, ls, hl, h => anew_in ns (paint ls x) (by unfold paint; rw [List.length_set]; exact hl) fun k hk => by
    rw [paint_at hl x hk]
    split
    · exact in3_fmod _
    · exact h k hk
theorem anew_keep : ∀ (ns ls : List Int), ls.length = 21 → ∀ k ∈ rng 21, (∀ x ∈ ns, x.fmod 21 ≠ k) → vOf (anewOf ls ns) k = vOf ls k
  | [], _, _, _, _, _ => rfl
  | x :: ns, ls, hl, k, hk, h => by
    show vOf (anewOf (paint ls x) ns) k = _
    rw [anew_keep ns (paint ls x) (by unfold paint; rw [List.length_set]; exact hl) k hk fun y hy => h y (.tail _ hy), paint_at hl x hk, if_neg (h x (.head _))]
theorem base_at (R : List Row) {k : Int} (hk : k ∈ rng 21) : vOf (baseOf R) k = third (hl3 (s3 R (tie k))) := by
  obtain ⟨k0, k1⟩ := mem_rng hk
  have hl : k.toNat < ends21.length := by show k.toNat < 21; omega
  have e : ends21[k.toNat]? = some (tie k) := by rw [tie, List.getD_eq_getElem?_getD, List.getElem?_eq_getElem hl]; rfl
  unfold vOf baseOf toldOf
  rw [List.getD_eq_getElem?_getD, List.getElem?_map, List.getElem?_map, e]; rfl
theorem lights_in (l : List Int) : ∀ k ∈ rng 21, in3 (vOf (lightsOf l) k) := anew_in _ _ (base_len _) fun k hk => by
  rw [base_at _ hk]; exact in3_fmod _
noncomputable def metB (a b : List Int) : Bool := a.any fun x => b.contains x
theorem apart : (rng 7).all (fun g => ends21.all fun x => ends21.all fun y => !clrB x y || (inP g x || (inP g y || !metB (lw (cor g x.1) (cor g x.2)) (lw (cor g y.1) (cor g y.2))))) = true := by decide +kernel
theorem pair_in {ls : List Int} {p : (Int × Int) × (Int × Int)} (h : p ∈ pairsOf ls) : ∃ tone i j : Int, i ∈ rng 21 ∧ j ∈ rng 21 ∧ vOf ls i = tone ∧ vOf ls j = tone ∧ p = (tie i, tie j) ∧ clr p.1 p.2 = true := by
  obtain ⟨tone, _, h⟩ := List.mem_flatMap.mp h
  obtain ⟨k, hk, h⟩ := List.mem_flatMap.mp h
  obtain ⟨j, hj, rfl⟩ := List.mem_map.mp h
  obtain ⟨hj, hc⟩ := List.mem_filter.mp hj
  obtain ⟨k0, k1⟩ := mem_rng hk
  obtain ⟨j0, j1⟩ := mem_rng hj
  have at_ : ∀ i : Int, 0 ≤ i → i < (tiesOf ls tone).length → ∃ x ∈ rng 21, vOf ls x = tone ∧ tsAt (tiesOf ls tone) i = tie x := fun i i0 i1 => by
    have hlt : i.toNat < (tiesOf ls tone).length := by omega
    have hm : tsAt (tiesOf ls tone) i ∈ tiesOf ls tone := by
      unfold tsAt; rw [List.getD_eq_getElem?_getD, List.getElem?_eq_getElem hlt]; exact List.getElem_mem hlt
    obtain ⟨x, hx, e⟩ := List.mem_map.mp hm
    obtain ⟨h1, h2⟩ := List.mem_filter.mp hx
    exact ⟨x, h1, beq_iff_eq.mp h2, e.symm⟩
  obtain ⟨x, hx, vx, ex⟩ := at_ j j0 (by omega)
  obtain ⟨y, hy, vy, ey⟩ := at_ k k0 k1
  exact ⟨tone, x, y, hx, hy, vx, vy, by rw [ex, ey], hc⟩
/-- the light of a tie of the wheel's own that is not painted anew -/
theorem own_light (l : List Int) {k : Int} (hk : k ∈ rng 21) (hg : inP (gapOf l) (tie k) = false) (hf : (freshOf l).contains (tie k) = false) : (lw (cor (gapOf l) (tie k).1) (cor (gapOf l) (tie k).2)).contains (vOf (lightsOf l) k) = true := by
  have hn : ∀ x ∈ numsOf l, x.fmod 21 ≠ k := fun x hx e => by
    have : (freshOf l).contains (tie k) = true := List.contains_iff_mem.mpr (List.mem_map.mpr ⟨x, hx, by rw [e]⟩)
    rw [hf] at this; cases this
  unfold lightsOf
  rw [anew_keep _ _ (base_len _) k hk hn, base_at _ hk]
  obtain ⟨a0, ab, b7⟩ := end_in (tie_mem hk)
  unfold inP at hg
  rw [Bool.or_eq_false_iff] at hg
  have h1 : (tie k).1 ≠ gapOf l := by simpa using hg.1
  have h2 : (tie k).2 ≠ gapOf l := by simpa using hg.2
  obtain ⟨q1, c0, c1⟩ := ring_cor l a0 (by omega) h1
  obtain ⟨q2, d0, d1⟩ := ring_cor l (i := (tie k).2) (by omega) b7 h2
  have e : s3 (ringOf l) (tie k) = sOf (rAt (ringOf l) (tie k).1) (rAt (ringOf l) (tie k).2) := rfl
  rw [e, q1, q2]
  exact (wheels c0 (cor_lt ab h1 h2) d1 (odd_in l _) (odd_in l _)).2
theorem own_nil (l : List Int) : ownOf l = [] := by
  unfold ownOf
  rw [List.filter_eq_nil_iff]
  intro p hp ho
  obtain ⟨tone, i, j, hi, hj, vi, vj, rfl, hc⟩ := pair_in hp
  unfold isOwn at ho
  simp only [Bool.and_eq_true, Bool.not_eq_true'] at ho
  obtain ⟨g1, g2, f1, f2⟩ := ho
  have l1 := own_light l hi g1 f1
  have l2 := own_light l hj g2 f2
  rw [vi] at l1
  rw [vj] at l2
  have hcb : clrB (tie i) (tie j) = true := by rw [← clr_eq (tie_mem hi) (tie_mem hj)]; exact hc
  obtain ⟨g0, g7⟩ := gap_in l
  have h := List.all_eq_true.mp (List.all_eq_true.mp (List.all_eq_true.mp apart (gapOf l) (in_rng g0 g7)) (tie i) (tie_mem hi)) (tie j) (tie_mem hj)
  rw [hcb, g1, g2, Bool.not_true, Bool.false_or, Bool.false_or, Bool.false_or, Bool.not_eq_true'] at h
  have : metB (lw (cor (gapOf l) (tie i).1) (cor (gapOf l) (tie i).2)) (lw (cor (gapOf l) (tie j).1) (cor (gapOf l) (tie j).2)) = true := List.any_eq_true.mpr ⟨tone, List.contains_iff_mem.mp l1, l2⟩
  rw [h] at this; cases this
theorem lawEnd_true (l : List Int) : lawEnd l = true := by
  have h := lights_in l
  have e1 := pairs_mono h
  have e2 := fours_mono (lightsOf l)
  have e3 := three h
  unfold lawEnd
  rw [own_nil, e1, e2, mono_eq, beq_self_eq_true, Bool.true_and, Bool.and_eq_true]
  exact ⟨decide_eq_true (by omega), rfl⟩
theorem law_true {C : Cx} (G : Gl C) (f : Fns C) {c d : Addr} (P : Pat C 50 c d) {l : List Int} (hl : l.length ≤ 63) : Fn C 10 129 [.lst (Ints l)] (.bool true) := by
  have := law_fn G f P (lawOk hl)
  rw [lawEnd_true] at this
  exact this
end
end Mine
namespace Mine
open PySem PySem.Calls PyProof.Rows PySem.W
noncomputable abbrev ctx (w : World) (h : Heap) (mg mb : Str → Option Value) : Cx := ⟨PySem.Challenge.pw_tr0028_01, w, [], h, mg, mb, 0⟩
section
variable {w : World} {h : Heap} {mg mb : Str → Option Value}
theorem ns_none {K : PySem.W.Frag} {a : Addr} {m : Str → Option Value} {n : Str} (X : K.In h) (N : h.Ns a m) (e : nsIn K a n = some none) : m n = none := by
  obtain ⟨o, es, ep, h1, h2, _, h3⟩ := N
  cases hk : K.lookup a with
  | none => unfold nsIn at e; rw [hk] at e; cases e
  | some ob =>
    have h4 := X a ob hk
    rw [h1] at h4
    cases h4
    obtain ⟨c, dt, dd, sl⟩ := o
    replace h2 : dd = .dict es ep := h2
    subst h2
    unfold nsIn at e
    rw [hk] at e
    simp only [] at e
    split at e
    · cases e
    · rename_i hf
      rw [← h3 n]
      unfold nsFind findBy
      rw [← Array.find?_toList, hf]; rfl
theorem gl_of {p : Program} {loose : List Str} {mean : ExcName → Option Value} {K : PySem.W.Frag} (X : K.In h) (T : Top p loose mean mg mb h) (hs : nsIn K cStatics sharingNotToldKey = some none)
    (hg : (gtab.map fun p => nsIn K mainGlobals p.1) = gtab.map fun p => some p.2) : Gl (ctx w h mg mb) := by
  refine ⟨⟨T.g, T.b, T.nolimit, T.builtins, ?_⟩, fun x v hx => ?_⟩
  · obtain ⟨mc, h1, _⟩ := T.nodigits
    exact ⟨mc, h1, ns_none X h1 hs⟩
  · have hm : nsIn K mainGlobals x = some v := List.map_inj_left.mp hg (x, v) (mem_of_lk hx)
    cases v with
    | none => exact ns_none X T.g hm
    | some v => exact mg_of X T.g hm
theorem plst_of {P : Params} {a : Addr} {vs : List Value} {xs : List WData} (W : Well P h (.ref a) (.list xs)) (L : h.IsList a vs.toArray) : PLst h a vs := by
  cases W with
  | @list _ ws _ h1 _ =>
    obtain ⟨o, h2, _, n, h3⟩ := L
    rw [h1] at h2
    cases h2
    have h4 : Data.seq ws.toArray 0 = Data.seq vs.toArray n := h3
    injection h4 with h5 _
    have h6 : ws = vs := congrArg Array.toList h5
    subst h6
    exact ⟨0, h1⟩
theorem finish {s₁ : Shared} {fa a : Addr} {l : List Int} {vs : List Value} {xs : List WData} (G : Gl (ctx w s₁.heap mg mb)) (f : Fns (ctx w s₁.heap mg mb)) (P : Pat (ctx w s₁.heap mg mb) 50 49 47) (hfa : fa = 129)
    (W : Well w.params s₁.heap (.ref a) (.list xs)) (L : s₁.heap.IsList a vs.toArray) (I : IntsAre vs l) (hl : ¬ (63 : Int) < l.length) :
    codeAny (model PySem.Challenge.pw_tr0028_01 w) callerA (.call (.ref fa) ⟨[.ref a], []⟩) (fun r s' => r = .ok (.ret (.bool true)) ∧ Step No s₁ s') s₁ := by
  subst hfa
  have f := law_true G f P (l := l) (by omega)
  refine codeAny_mono (f callerA s₁ No [.ref a] ⟨rfl, by decide, by decide⟩ ⟨fun _ _ e => e, fun _ x => x.elim, fun _ x => x.elim, Nat.zero_le _⟩ (.one ⟨a, vs, rfl, id, plst_of W L, ints_reps I⟩)) fun r s' ⟨v, e, y, z⟩ => ?_
  cases z
  exact ⟨e, y⟩
end
end Mine
open PySem PySem.W PyProof.Rows
set_option maxHeartbeats 8000000 in
theorem PySem.Challenge.cw_tr0028_01_holds : PySem.Challenge.rw_tr0028_01.Holds := by
  w_on
  o_law
  k_head
  case hw => w_witness2
  intro w s₀ s₁ mg mb G Y fa o pm cd doc dV kV ho hfd hcd hD hmg hg args vals as hpre hlay hrd hwl hlo
  have KX := kIn_of Y
  refine Ground.open G ?_
  intro T B D TE TW
  clear hcd hfd hD ho
  replace hmg : mg ("law" : Str) = some (.ref fa) := hmg
  clear G Y B D TE TW
  have f38 : Mine.IsFn (Mine.ctx w s₁.heap mg mb) 38 ["r", "g", "b"] (Mine.bodyOf 2) (Mine.scOf 2) := ⟨by
    refine ⟨_, _, KX 38 _ rfl, rfl, ?_, ?_, rfl, rfl, rfl, ⟨_, _, _, _, rfl, KX 37 _ rfl, rfl, rfl⟩, ?_⟩
    · kernel_rfl
    · kernel_rfl
    intro vs hv
    obtain ⟨a, b, c, rfl⟩ : ∃ a b c, vs = [a, b, c] := by
      match vs, hv with | [a, b, c], _ => exact ⟨a, b, c, rfl⟩
    kernel_rfl⟩
  have f45 : Mine.IsFn (Mine.ctx w s₁.heap mg mb) 45 ["h", "s", "v"] (Mine.bodyOf 3) (Mine.scOf 3) := ⟨by
    refine ⟨_, _, KX 45 _ rfl, rfl, ?_, ?_, rfl, rfl, rfl, ⟨_, _, _, _, rfl, KX 44 _ rfl, rfl, rfl⟩, ?_⟩
    · kernel_rfl
    · kernel_rfl
    intro vs hv
    obtain ⟨a, b, c, rfl⟩ : ∃ a b c, vs = [a, b, c] := by
      match vs, hv with | [a, b, c], _ => exact ⟨a, b, c, rfl⟩
    kernel_rfl⟩
  have f57 : Mine.IsFn (Mine.ctx w s₁.heap mg mb) 57 ["num"] (Mine.bodyOf 6) (Mine.scOf 6) := ⟨by
    refine ⟨_, _, KX 57 _ rfl, rfl, ?_, ?_, rfl, rfl, rfl, ⟨_, _, _, _, rfl, KX 56 _ rfl, rfl, rfl⟩, ?_⟩
    · kernel_rfl
    · kernel_rfl
    intro vs hv
    obtain ⟨a, rfl⟩ : ∃ a, vs = [a] := by
      match vs, hv with | [a], _ => exact ⟨a, rfl⟩
    kernel_rfl⟩
  have f64 : Mine.IsFn (Mine.ctx w s₁.heap mg mb) 64 ["resp"] (Mine.bodyOf 7) (Mine.scOf 7) := ⟨by
    refine ⟨_, _, KX 64 _ rfl, rfl, ?_, ?_, rfl, rfl, rfl, ⟨_, _, _, _, rfl, KX 63 _ rfl, rfl, rfl⟩, ?_⟩
    · kernel_rfl
    · kernel_rfl
    intro vs hv
    obtain ⟨a, rfl⟩ : ∃ a, vs = [a] := by
      match vs, hv with | [a], _ => exact ⟨a, rfl⟩
    kernel_rfl⟩
  have f71 : Mine.IsFn (Mine.ctx w s₁.heap mg mb) 71 ["addr"] (Mine.bodyOf 9) (Mine.scOf 9) := ⟨by
    refine ⟨_, _, KX 71 _ rfl, rfl, ?_, ?_, rfl, rfl, rfl, ⟨_, _, _, _, rfl, KX 70 _ rfl, rfl, rfl⟩, ?_⟩
    · kernel_rfl
    · kernel_rfl
    intro vs hv
    obtain ⟨a, rfl⟩ : ∃ a, vs = [a] := by
      match vs, hv with | [a], _ => exact ⟨a, rfl⟩
    kernel_rfl⟩
  have f78 : Mine.IsFn (Mine.ctx w s₁.heap mg mb) 78 ["addr"] (Mine.bodyOf 10) (Mine.scOf 10) := ⟨by
    refine ⟨_, _, KX 78 _ rfl, rfl, ?_, ?_, rfl, rfl, rfl, ⟨_, _, _, _, rfl, KX 77 _ rfl, rfl, rfl⟩, ?_⟩
    · kernel_rfl
    · kernel_rfl
    intro vs hv
    obtain ⟨a, rfl⟩ : ∃ a, vs = [a] := by
      match vs, hv with | [a], _ => exact ⟨a, rfl⟩
    kernel_rfl⟩
  have f85 : Mine.IsFn (Mine.ctx w s₁.heap mg mb) 85 ["addr"] (Mine.bodyOf 11) (Mine.scOf 11) := ⟨by
    refine ⟨_, _, KX 85 _ rfl, rfl, ?_, ?_, rfl, rfl, rfl, ⟨_, _, _, _, rfl, KX 84 _ rfl, rfl, rfl⟩, ?_⟩
    · kernel_rfl
    · kernel_rfl
    intro vs hv
    obtain ⟨a, rfl⟩ : ∃ a, vs = [a] := by
      match vs, hv with | [a], _ => exact ⟨a, rfl⟩
    kernel_rfl⟩
  have f90 : Mine.IsFn (Mine.ctx w s₁.heap mg mb) 90 ["script"] (Mine.bodyOf 13) (Mine.scOf 13) := ⟨by
    refine ⟨_, _, KX 90 _ rfl, rfl, ?_, ?_, rfl, rfl, rfl, ⟨_, _, _, _, rfl, KX 89 _ rfl, rfl, rfl⟩, ?_⟩
    · kernel_rfl
    · kernel_rfl
    intro vs hv
    obtain ⟨a, rfl⟩ : ∃ a, vs = [a] := by
      match vs, hv with | [a], _ => exact ⟨a, rfl⟩
    kernel_rfl⟩
  have f95 : Mine.IsFn (Mine.ctx w s₁.heap mg mb) 95 ["corner", "quarters", "halves"] (Mine.bodyOf 14) (Mine.scOf 14) := ⟨by
    refine ⟨_, _, KX 95 _ rfl, rfl, ?_, ?_, rfl, rfl, rfl, ⟨_, _, _, _, rfl, KX 94 _ rfl, rfl, rfl⟩, ?_⟩
    · kernel_rfl
    · kernel_rfl
    intro vs hv
    obtain ⟨a, b, c, rfl⟩ : ∃ a b c, vs = [a, b, c] := by
      match vs, hv with | [a, b, c], _ => exact ⟨a, b, c, rfl⟩
    kernel_rfl⟩
  have f102 : Mine.IsFn (Mine.ctx w s₁.heap mg mb) 102 ["told", "sums"] (Mine.bodyOf 15) (Mine.scOf 15) := ⟨by
    refine ⟨_, _, KX 102 _ rfl, rfl, ?_, ?_, rfl, rfl, rfl, ⟨_, _, _, _, rfl, KX 101 _ rfl, rfl, rfl⟩, ?_⟩
    · kernel_rfl
    · kernel_rfl
    intro vs hv
    obtain ⟨a, b, rfl⟩ : ∃ a b, vs = [a, b] := by
      match vs, hv with | [a, b], _ => exact ⟨a, b, rfl⟩
    kernel_rfl⟩
  have f109 : Mine.IsFn (Mine.ctx w s₁.heap mg mb) 109 ["lights", "numbers"] (Mine.bodyOf 16) (Mine.scOf 16) := ⟨by
    refine ⟨_, _, KX 109 _ rfl, rfl, ?_, ?_, rfl, rfl, rfl, ⟨_, _, _, _, rfl, KX 108 _ rfl, rfl, rfl⟩, ?_⟩
    · kernel_rfl
    · kernel_rfl
    intro vs hv
    obtain ⟨a, b, rfl⟩ : ∃ a b, vs = [a, b] := by
      match vs, hv with | [a, b], _ => exact ⟨a, b, rfl⟩
    kernel_rfl⟩
  have f114 : Mine.IsFn (Mine.ctx w s₁.heap mg mb) 114 ["ends", "lights", "tone"] (Mine.bodyOf 17) (Mine.scOf 17) := ⟨by
    refine ⟨_, _, KX 114 _ rfl, rfl, ?_, ?_, rfl, rfl, rfl, ⟨_, _, _, _, rfl, KX 113 _ rfl, rfl, rfl⟩, ?_⟩
    · kernel_rfl
    · kernel_rfl
    intro vs hv
    obtain ⟨a, b, c, rfl⟩ : ∃ a b c, vs = [a, b, c] := by
      match vs, hv with | [a, b, c], _ => exact ⟨a, b, c, rfl⟩
    kernel_rfl⟩
  have f119 : Mine.IsFn (Mine.ctx w s₁.heap mg mb) 119 ["words"] (Mine.bodyOf 18) (Mine.scOf 18) := ⟨by
    refine ⟨_, _, KX 119 _ rfl, rfl, ?_, ?_, rfl, rfl, rfl, ⟨_, _, _, _, rfl, KX 118 _ rfl, rfl, rfl⟩, ?_⟩
    · kernel_rfl
    · kernel_rfl
    intro vs hv
    obtain ⟨a, rfl⟩ : ∃ a, vs = [a] := by
      match vs, hv with | [a], _ => exact ⟨a, rfl⟩
    kernel_rfl⟩
  have f124 : Mine.IsFn (Mine.ctx w s₁.heap mg mb) 124 ["ends", "lights"] (Mine.bodyOf 19) (Mine.scOf 19) := ⟨by
    refine ⟨_, _, KX 124 _ rfl, rfl, ?_, ?_, rfl, rfl, rfl, ⟨_, _, _, _, rfl, KX 123 _ rfl, rfl, rfl⟩, ?_⟩
    · kernel_rfl
    · kernel_rfl
    intro vs hv
    obtain ⟨a, b, rfl⟩ : ∃ a b, vs = [a, b] := by
      match vs, hv with | [a, b], _ => exact ⟨a, b, rfl⟩
    kernel_rfl⟩
  have f129 : Mine.IsFn (Mine.ctx w s₁.heap mg mb) 129 ["script"] (Mine.bodyOf 20) (Mine.scOf 20) := ⟨by
    refine ⟨_, _, KX 129 _ rfl, rfl, ?_, ?_, rfl, rfl, rfl, ⟨_, _, _, _, rfl, KX 128 _ rfl, rfl, rfl⟩, ?_⟩
    · kernel_rfl
    · kernel_rfl
    intro vs hv
    obtain ⟨a, rfl⟩ : ∃ a, vs = [a] := by
      match vs, hv with | [a], _ => exact ⟨a, rfl⟩
    kernel_rfl⟩
  have hp : Mine.Pat (Mine.ctx w s₁.heap mg mb) 50 49 47 := by
    refine ⟨⟨_, _, _, _, KX 50 _ rfl, rfl, rfl, rfl, rfl, rfl, rfl, rfl, KX 49 _ rfl, ?_⟩, ⟨_, _, mapOf_K KX rfl ?_, rfl⟩⟩
    · kernel_rfl
    · exact ⟨⟨_, _, rfl, rfl⟩, trivial⟩
  have hgl : Mine.Gl (Mine.ctx w s₁.heap mg mb) := Mine.gl_of KX T (by kernel_rfl) (by kernel_rfl)
  have hfa : fa = 129 := by
    have e : mg ("law" : Str) = some (.ref 129) := mg_of KX T.g (by kernel_rfl)
    rw [e] at hmg
    cases hmg
    rfl
  wrow_args hpre hlay hrd hwl hlo
  rename_i l _ _ _ _ _ _ _ a vs _ L _ W _ I _ hl _
  refine enter_call ?_
  refine codeAny_mono (Mine.finish hgl ⟨f38, f45, f57, f64, f71, f78, f85, f90, f95, f102, f109, f114, f119, f124, f129⟩ hp hfa W L I hl) fun r s' h => ?_
  obtain ⟨e, y⟩ := h
  subst e
  exact ⟨.inl ⟨_, .bool true, [], rfl, fun _ => rfl, .bool true, (by kernel_rfl), fun _ => ⟨List.nodup_nil, fun a h => by cases h⟩⟩, OldK.of_keep y.all, y.os, y.bare (AllBare.of_eq hg)⟩
