import PyProof.Rows.All
import Wide.All
import OpenK.AllK
import Wide.FinOn
import PySem.Challenge.RW_pg0303_02
set_option Elab.async false
set_option linter.unusedVariables false
set_option linter.unusedSimpArgs false
-- part C1
section
namespace M3
open PySem PySem.Calls PySem.Spec PyProof.Rows PySem.W
/-- data, as trees -/
inductive D where
  | none
  | bool (b : Bool)
  | int (i : Int)
  | str (s : Str)
  | list (l : List D)
  | tup (l : List D)
  | inst (c : Addr) (ns : List Str) (l : List D)
  | addr (a : Addr)
abbrev Zm := Addr → Option Obj
structure Pl (o : Obj) (cls : String) : Prop where
  c : o.cls = .type cls
  d : o.dict = none
  s : o.slots = #[]
def SeqZ (Z : Zm) (cls : String) (a : Addr) (vs : List Value) : Prop := ∃ o, Z a = some o ∧ Pl o cls ∧ ∃ n, o.data = .seq vs.toArray n
/-- a plain list -/
def PL (h : Heap) (a : Addr) (vs : Array Value) : Prop := ∃ o, h.get? a = some o ∧ Pl o "list" ∧ ∃ n, o.data = .seq vs n
theorem PL.list {h : Heap} {a : Addr} {vs : Array Value} (x : PL h a vs) : h.IsList a vs := let ⟨o, e, p, r⟩ := x; ⟨o, e, p.c, r⟩
theorem PL.isL {h : Heap} {a : Addr} {vs : Array Value} (x : PL h a vs) : ∃ n, h.get? a = some { cls := .type "list", dict := none, data := .seq vs n, slots := #[] } := by
  obtain ⟨⟨c, d, dt, sl⟩, e, ⟨p1, p2, p3⟩, n, hd⟩ := x
  dsimp only at p1 p2 p3 hd; subst p1 p2 p3 hd
  exact ⟨n, e⟩
theorem PL.of {h : Heap} {a : Addr} {vs : Array Value} {n : Nat} (e : h.get? a = some { cls := .type "list", dict := none, data := .seq vs n, slots := #[] }) : PL h a vs := ⟨_, e, ⟨rfl, rfl, rfl⟩, n, rfl⟩
def EntZ : List DictEntry → List Str → List Value → Prop
  | [], [], [] => True
  | e :: es, n :: ns, v :: vs => (∃ h t, e = ⟨h, .str n t, v⟩) ∧ EntZ es ns vs
  | _, _, _ => False
def InstZ (Z : Zm) (c : Addr) (ns : List Str) (a : Addr) (vs : List Value) : Prop :=
  ∃ dx es n, Z a = some (instObj c dx) ∧ Z dx = some (dictOf es n) ∧ EntZ es ns vs
mutual
def Holds (Z : Zm) : D → Value → Prop
  | .none, v => v = .none
  | .bool b, v => v = .bool b
  | .int i, v => ∃ t, v = .int i t
  | .str s, v => ∃ t, v = .str s t
  | .list l, v => ∃ a vs, v = .ref a ∧ SeqZ Z "list" a vs ∧ HoldsL Z l vs
  | .tup l, v => ∃ a vs, v = .ref a ∧ SeqZ Z "tuple" a vs ∧ HoldsL Z l vs
  | .inst c ns l, v => ∃ a vs, v = .ref a ∧ InstZ Z c ns a vs ∧ HoldsL Z l vs
  | .addr a, v => v = .ref a
def HoldsL (Z : Zm) : List D → List Value → Prop
  | [], vs => vs = []
  | d :: l, vs => ∃ v vs', vs = v :: vs' ∧ Holds Z d v ∧ HoldsL Z l vs'
end
def Zle (Z Z' : Zm) : Prop := ∀ a o, Z a = some o → Z' a = some o
def Zin (Z : Zm) (h : Heap) : Prop := ∀ a o, Z a = some o → h.get? a = some o
theorem Zle.refl (Z : Zm) : Zle Z Z := fun _ _ e => e
theorem Zle.trans {a b c : Zm} (x : Zle a b) (y : Zle b c) : Zle a c := fun _ _ e => y _ _ (x _ _ e)
theorem SeqZ.mono {Z Z' : Zm} {c a vs} (h : SeqZ Z c a vs) (z : Zle Z Z') : SeqZ Z' c a vs := let ⟨o, e, r⟩ := h; ⟨o, z _ _ e, r⟩
theorem InstZ.mono {Z Z' : Zm} {c ns a vs} (h : InstZ Z c ns a vs) (z : Zle Z Z') : InstZ Z' c ns a vs := let ⟨dx, es, n, e1, e2, r⟩ := h; ⟨dx, es, n, z _ _ e1, z _ _ e2, r⟩
mutual
theorem Holds.mono {Z Z' : Zm} (z : Zle Z Z') : ∀ {d : D} {v : Value}, Holds Z d v → Holds Z' d v
  | .none, _, h => h
  | .bool _, _, h => h
  | .int _, _, h => h
  | .str _, _, h => h
  | .list _, _, ⟨a, vs, e, x, y⟩ => ⟨a, vs, e, x.mono z, HoldsL.mono z y⟩
  | .tup _, _, ⟨a, vs, e, x, y⟩ => ⟨a, vs, e, x.mono z, HoldsL.mono z y⟩
  | .inst _ _ _, _, ⟨a, vs, e, x, y⟩ => ⟨a, vs, e, x.mono z, HoldsL.mono z y⟩
  | .addr _, _, h => h
theorem HoldsL.mono {Z Z' : Zm} (z : Zle Z Z') : ∀ {l : List D} {vs : List Value}, HoldsL Z l vs → HoldsL Z' l vs
  | [], _, h => h
  | _ :: _, _, ⟨v, vs', e, x, y⟩ => ⟨v, vs', e, Holds.mono z x, HoldsL.mono z y⟩
end
theorem HoldsL.length {Z : Zm} : ∀ {l : List D} {vs : List Value}, HoldsL Z l vs → vs.length = l.length
  | [], _, h => by subst h; rfl
  | _ :: _, _, ⟨v, vs', e, _, y⟩ => by subst e; simp [HoldsL.length y]
theorem HoldsL.get {Z : Zm} : ∀ {l : List D} {vs : List Value}, HoldsL Z l vs → ∀ {i : Nat} {d : D}, l[i]? = some d → ∃ v, vs[i]? = some v ∧ Holds Z d v
  | [], _, _, _, _, e => by simp at e
  | d :: l, _, ⟨v, vs', e, x, y⟩, 0, d', h => by subst e; simp at h; subst h; exact ⟨v, rfl, x⟩
  | d :: l, _, ⟨v, vs', e, x, y⟩, i + 1, d', h => by subst e; simp at h; simpa using HoldsL.get y h
theorem HoldsL.append {Z : Zm} : ∀ {l l' : List D} {vs vs' : List Value}, HoldsL Z l vs → HoldsL Z l' vs' → HoldsL Z (l ++ l') (vs ++ vs')
  | [], _, _, _, h, h' => by subst h; exact h'
  | _ :: _, _, _, _, ⟨v, ws, e, x, y⟩, h' => by subst e; exact ⟨v, _, rfl, x, HoldsL.append y h'⟩
theorem HoldsL.one {Z : Zm} {d : D} {v : Value} (h : Holds Z d v) : HoldsL Z [d] [v] := ⟨v, [], rfl, h, rfl⟩
theorem HoldsL.split {Z : Zm} : ∀ {l l' : List D} {vs : List Value}, HoldsL Z (l ++ l') vs → ∃ a b, vs = a ++ b ∧ HoldsL Z l a ∧ HoldsL Z l' b
  | [], _, vs, h => ⟨[], vs, rfl, rfl, h⟩
  | _ :: _, _, _, ⟨v, ws, e, x, y⟩ => by
    obtain ⟨a, b, e', p, q⟩ := HoldsL.split y
    subst e; subst e'
    exact ⟨v :: a, b, rfl, ⟨v, a, rfl, x, p⟩, q⟩
structure Gc where
  prog : Program
  w : World
  K : Frag
  p : Program
  loose : List Str
  mg : Str → Option Value
  mb : Str → Option Value
  X : Zm → Prop
  Xm : ∀ Z Z', Zle Z Z' → X Z → X Z'
structure Gc.Bs (G : Gc) (h : Heap) : Prop where
  k : G.K.In h
  t : TopRead G.p G.loose G.mg G.mb h
theorem Gc.Bs.keeps {G : Gc} {h h' : Heap} (b : G.Bs h) (k : ∀ a o, h.get? a = some o → h'.get? a = some o) : G.Bs h' := ⟨b.k.keeps k, b.t.keeps k⟩
/-- the frozen part holds the world's own objects -/
def Gc.Z0 (G : Gc) (Z : Zm) : Prop := (∃ h₀, G.Bs h₀ ∧ ∀ a o, h₀.get? a = some o → Z a = some o) ∧ G.X Z
theorem Gc.Z0.mono {G : Gc} {Z Z' : Zm} (x : G.Z0 Z) (z : Zle Z Z') : G.Z0 Z' := let ⟨⟨h, b, k⟩, q⟩ := x; ⟨⟨h, b, fun a o e => z _ _ (k a o e)⟩, G.Xm _ _ z q⟩
theorem Gc.Z0.bs {G : Gc} {Z : Zm} {h : Heap} (x : G.Z0 Z) (z : Zin Z h) : G.Bs h := let ⟨⟨_, b, k⟩, _⟩ := x; b.keeps fun a o e => z _ _ (k a o e)
/-- ... with a list that stands frozen at a known place -/
def Gc.plus (G : Gc) (a : Addr) (L : List D) : Gc := { G with X := fun Z => G.X Z ∧ Holds Z (.list L) (.ref a), Xm := fun _ _ z q => ⟨G.Xm _ _ z q.1, Holds.mono z q.2⟩ }
theorem Gc.Bs.plus {G : Gc} {a : Addr} {L : List D} {h : Heap} (b : G.Bs h) : (G.plus a L).Bs h := ⟨b.k, b.t⟩
/-- a step that turns nothing that stood -/
structure PStep (Z : Zm) (s : Shared) (Z' : Zm) (s' : Shared) : Prop where
  st : ∃ h' tk, s' = { s with heap := h', toks := tk }
  keep : ∀ b o, s.heap.get? b = some o → s'.heap.get? b = some o
  z : Zle Z Z'
  zin : Zin Z' s'.heap
  zn : ∀ a o, s.heap.get? a = some o → Z a = none → Z' a = none
theorem PStep.refl {Z : Zm} {s : Shared} (h : Zin Z s.heap) : PStep Z s Z s := ⟨⟨s.heap, s.toks, rfl⟩, fun _ _ e => e, Zle.refl _, h, fun _ _ _ e => e⟩
theorem PStep.trans {Z Z1 Z2 : Zm} {s s1 s2 : Shared} (x : PStep Z s Z1 s1) (y : PStep Z1 s1 Z2 s2) : PStep Z s Z2 s2 := by
  obtain ⟨h1, t1, rfl⟩ := x.st
  obtain ⟨h2, t2, rfl⟩ := y.st
  exact ⟨⟨h2, t2, rfl⟩, fun b o e => y.keep b o (x.keep b o e), x.z.trans y.z, y.zin, fun a o e n => y.zn a o (x.keep a o e) (x.zn a o e n)⟩
theorem PStep.tok {Z : Zm} {s : Shared} (h : Zin Z s.heap) (tk : Nat) : PStep Z s Z { s with toks := tk } := ⟨⟨s.heap, tk, rfl⟩, fun _ _ e => e, Zle.refl _, h, fun _ _ _ e => e⟩
/-- a keeping of the whole heap, nothing frozen anew -/
theorem PStep.same {Z : Zm} {s : Shared} {h' : Heap} {tk : Nat} (h : Zin Z s.heap) (k : ∀ b o, s.heap.get? b = some o → h'.get? b = some o) : PStep Z s Z { s with heap := h', toks := tk } :=
  ⟨⟨h', tk, rfl⟩, k, Zle.refl _, fun a o e => k _ _ (h _ _ e), fun _ _ _ e => e⟩
open Classical in
/-- freezing one more object -/
noncomputable def Zm.add (Z : Zm) (a : Addr) (o : Obj) : Zm := fun b => if b = a then some o else Z b
theorem Zm.add_self (Z : Zm) (a : Addr) (o : Obj) : Z.add a o a = some o := by simp [Zm.add]
theorem Zm.add_other (Z : Zm) {a b : Addr} (o : Obj) (h : b ≠ a) : Z.add a o b = Z b := by simp [Zm.add, h]
theorem Zm.le_add {Z : Zm} {a : Addr} {o : Obj} (h : Z a = none) : Zle Z (Z.add a o) := by
  intro b o' e
  by_cases hb : b = a
  · subst hb; rw [h] at e; cases e
  · rw [Zm.add_other _ _ hb]; exact e
theorem Zin.add {Z : Zm} {h : Heap} {a : Addr} {o : Obj} (z : Zin Z h) (e : h.get? a = some o) : Zin (Z.add a o) h := by
  intro b o' e'
  by_cases hb : b = a
  · subst hb; rw [Zm.add_self] at e'; cases e'; exact e
  · rw [Zm.add_other _ _ hb] at e'; exact z _ _ e'
/-- after a pure step, a fresh object is frozen -/
theorem PStep.freeze {Z Z' : Zm} {s s' : Shared} (x : PStep Z s Z' s') {a : Addr} {o : Obj} (hn : s.heap.get? a = none) (hz : Z' a = none) (e : s'.heap.get? a = some o) : PStep Z s (Z'.add a o) s' := by
  refine ⟨x.st, x.keep, x.z.trans (Zm.le_add hz), x.zin.add e, fun b o' eb nb => ?_⟩
  have : b ≠ a := fun h => by rw [h, hn] at eb; cases eb
  rw [Zm.add_other _ _ this]; exact x.zn b o' eb nb
theorem fresh_none {h : Heap} : h.get? h.objs.size = none := by
  cases e : h.get? h.objs.size with
  | none => rfl
  | some o => exact absurd (Heap.lt_size e) (Nat.lt_irrefl _)
theorem Zin.none {Z : Zm} {h : Heap} (z : Zin Z h) {a : Addr} (e : h.get? a = .none) : Z a = .none := by
  cases q : Z a with
  | none => rfl
  | some o => rw [z _ _ q] at e; cases e
/-- a new object, frozen at once -/
theorem PStep.push {Z : Zm} {s : Shared} (z : Zin Z s.heap) (o : Obj) (tk : Nat) (hf : o.isFreed = false := by rfl) :
    PStep Z s (Z.add s.heap.objs.size o) { s with heap := s.heap.push o, toks := tk } :=
  (PStep.same (h' := s.heap.push o) (tk := tk) z fun _ _ e => Heap.get?_push_of_some _ e).freeze fresh_none (z.none fresh_none) (Heap.get?_push_size _ hf)
end M3
end
-- part C2
section
namespace M3
open PySem PySem.Calls PySem.Spec PyProof.Rows PySem.W
theorem Ns.unique {h : Heap} {a : Addr} {m m' : Str → Option Value} (x : h.Ns a m) (y : h.Ns a m') : m = m' := by
  obtain ⟨o, es, ep, ho, hd, _, hm⟩ := x
  obtain ⟨o', es', ep', ho', hd', _, hm'⟩ := y
  rw [ho] at ho'; cases ho'
  rw [hd] at hd'; cases hd'
  funext n
  rw [← hm n, ← hm' n]
theorem IsCell.unique {h : Heap} {a : Addr} {v v' : Option Value} (x : h.IsCell a v) (y : h.IsCell a v') : v = v' := by
  obtain ⟨o, ho, hd⟩ := x
  obtain ⟨o', ho', hd'⟩ := y
  rw [ho] at ho'; cases ho'
  rw [hd] at hd'; cases hd'
  rfl
theorem Ns.ne_list {h : Heap} {a b : Addr} {m : Str → Option Value} {vs : Array Value} (x : h.Ns a m) (y : PL h b vs) : a ≠ b := by
  rintro rfl
  obtain ⟨o, es, ep, ho, hd, _⟩ := x
  obtain ⟨o', ho', _, n, hd'⟩ := y
  rw [ho] at ho'; cases ho'
  rw [hd] at hd'; cases hd'
theorem IsCell.ne_list {h : Heap} {a b : Addr} {v : Option Value} {vs : Array Value} (x : h.IsCell a v) (y : PL h b vs) : a ≠ b := by
  rintro rfl
  obtain ⟨o, ho, hd⟩ := x
  obtain ⟨o', ho', _, n, hd'⟩ := y
  rw [ho] at ho'; cases ho'
  rw [hd] at hd'; cases hd'
theorem Ns.ne_cell {h : Heap} {a b : Addr} {m : Str → Option Value} {v : Option Value} (x : h.Ns a m) (y : h.IsCell b v) : a ≠ b := by
  rintro rfl
  obtain ⟨o, es, ep, ho, hd, _⟩ := x
  obtain ⟨o', ho', hd'⟩ := y
  rw [ho] at ho'; cases ho'
  rw [hd] at hd'; cases hd'
theorem IsList.keeps {h h' : Heap} {a : Addr} {vs : Array Value} (x : PL h a vs) (k : ∀ b o, h.get? b = some o → h'.get? b = some o) : PL h' a vs := let ⟨o, e, r⟩ := x; ⟨o, k _ _ e, r⟩
theorem IsList.unique {h : Heap} {a : Addr} {vs vs' : Array Value} (x : PL h a vs) (y : PL h a vs') : vs = vs' := by
  obtain ⟨o, ho, _, n, hd⟩ := x
  obtain ⟨o', ho', _, n', hd'⟩ := y
  rw [ho] at ho'; cases ho'
  rw [hd] at hd'; cases hd'
  rfl
/-- what a name stands for: frozen data; a list of the frame's own; the list of a Headers object of the frame's own -/
inductive Slot where
  | fz (d : D)
  | own (l : List D)
  | hdr (c : Addr) (l : List (Str × Str))
abbrev Rho := List (Str × Slot)
def hpair (p : Str × Str) : D := .tup [.str p.1, .str p.2]
def SlotH (Z : Zm) (h : Heap) : Slot → Value → Option Addr → Prop
  | .fz d, v, o => o = none ∧ Holds Z d v
  | .own l, v, o => ∃ a vs, o = some a ∧ v = .ref a ∧ Z a = none ∧ PL h a vs.toArray ∧ HoldsL Z l vs
  | .hdr c l, v, o => ∃ x a vs, o = some a ∧ v = .ref x ∧ InstZ Z c [Str.ofString "_headers"] x [.ref a] ∧ Z a = none ∧ PL h a vs.toArray ∧ HoldsL Z (l.map hpair) vs
def VarAt (env : Env) (h : Heap) (x : Str) (v : Value) : Prop :=
  (env.kindOf x = some .local ∧ ∃ m, h.Ns env.locals m ∧ m x = some v) ∨
  ((env.kindOf x = some .cell ∨ env.kindOf x = some .free) ∧ ∃ c, env.cells.lookup x = some c ∧ h.IsCell c (some v))
structure Vars (env : Env) (g : Heap) (Z : Zm) (ρ : Rho) (h : Heap) (pl : Str → Option Addr) : Prop where
  at_ : ∀ x sl, ρ.lookup x = some sl → ∃ v, VarAt env h x v ∧ SlotH Z h sl v (pl x)
  out : ∀ x, ρ.lookup x = none → pl x = none
  inj : ∀ x y a, pl x = some a → pl y = some a → x = y
  og : ∀ x a, pl x = some a → g.get? a = none
structure Sees (G : Gc) (env : Env) (g : Heap) (Z : Zm) (ρ : Rho) (h : Heap) : Prop where
  z0 : G.Z0 Z
  zin : Zin Z h
  ek : env.scope.kind = .function
  eg : env.globals = mainGlobals
  eb : env.builtins = builtinsNs
  ns : ∃ m, h.Ns env.locals m
  nz : Z env.locals = none
  cells : ∀ x, (env.kindOf x = some .cell ∨ env.kindOf x = some .free) → ∃ c v, env.cells.lookup x = some c ∧ h.IsCell c v ∧ Z c = none
  cinj : ∀ x y c, (env.kindOf x = some .cell ∨ env.kindOf x = some .free) → (env.kindOf y = some .cell ∨ env.kindOf y = some .free) → env.cells.lookup x = some c → env.cells.lookup y = some c → x = y
  vars : ∃ pl, Vars env g Z ρ h pl
theorem SlotH.list {Z : Zm} {h : Heap} {sl : Slot} {v : Value} {a : Addr} (x : SlotH Z h sl v (some a)) : Z a = none ∧ ∃ vs, PL h a vs := by
  cases sl with
  | fz d => cases x.1
  | own l => obtain ⟨b, vs, e, _, z, hl, _⟩ := x; cases e; exact ⟨z, _, hl⟩
  | hdr c l => obtain ⟨_, b, vs, e, _, _, z, hl, _⟩ := x; cases e; exact ⟨z, _, hl⟩
theorem Vars.list {env g Z ρ h pl} (x : Vars env g Z ρ h pl) {y : Str} {a : Addr} (e : pl y = some a) : Z a = none ∧ ∃ vs, PL h a vs := by
  cases q : ρ.lookup y with
  | none => rw [x.out y q] at e; cases e
  | some sl =>
    obtain ⟨v, _, hs⟩ := x.at_ y sl q
    rw [e] at hs
    exact hs.list
theorem VarAt.keeps {env h h' x v} (y : VarAt env h x v) (k : ∀ b o, h.get? b = some o → h'.get? b = some o) : VarAt env h' x v := by
  rcases y with ⟨a, m, hn, hm⟩ | ⟨a, c, hc, hv⟩
  · exact .inl ⟨a, m, hn.keeps k, hm⟩
  · exact .inr ⟨a, c, hc, hv.keeps k⟩
theorem SlotH.step {Z Z' : Zm} {h h' : Heap} {sl : Slot} {v : Value} {o : Option Addr} (x : SlotH Z h sl v o) (k : ∀ b o, h.get? b = some o → h'.get? b = some o) (z : Zle Z Z')
    (zn : ∀ a o, h.get? a = some o → Z a = none → Z' a = none) : SlotH Z' h' sl v o := by
  cases sl with
  | fz d => exact ⟨x.1, Holds.mono z x.2⟩
  | own l =>
    obtain ⟨a, vs, e, ev, hz, hl, hh⟩ := x
    obtain ⟨ob, hob, r⟩ := id hl
    exact ⟨a, vs, e, ev, zn a ob hob hz, IsList.keeps hl k, HoldsL.mono z hh⟩
  | hdr c l =>
    obtain ⟨xx, a, vs, e, ev, hi, hz, hl, hh⟩ := x
    obtain ⟨ob, hob, r⟩ := id hl
    exact ⟨xx, a, vs, e, ev, hi.mono z, zn a ob hob hz, IsList.keeps hl k, HoldsL.mono z hh⟩
theorem Ns.get {h : Heap} {a m} (x : h.Ns a m) : ∃ o, h.get? a = some o := let ⟨o, _, _, e, _⟩ := x; ⟨o, e⟩
theorem IsCell.get {h : Heap} {a v} (x : h.IsCell a v) : ∃ o, h.get? a = some o := let ⟨o, e, _⟩ := x; ⟨o, e⟩
theorem IsList.get {h : Heap} {a v} (x : PL h a v) : ∃ o, h.get? a = some o := let ⟨o, e, _⟩ := x; ⟨o, e⟩
/-- a frame goes through a pure step -/
theorem Sees.step {G env g Z ρ s Z' s'} (x : Sees G env g Z ρ s.heap) (y : PStep Z s Z' s') : Sees G env g Z' ρ s'.heap := by
  refine ⟨x.z0.mono y.z, y.zin, x.ek, x.eg, x.eb, let ⟨m, n⟩ := x.ns; ⟨m, n.keeps y.keep⟩, ?_, ?_, x.cinj, ?_⟩
  · obtain ⟨m, n⟩ := x.ns
    obtain ⟨o, e⟩ := Ns.get n
    exact y.zn _ o e x.nz
  · intro n hk
    obtain ⟨c, v, e, hc, hz⟩ := x.cells n hk
    obtain ⟨o, eo⟩ := IsCell.get hc
    exact ⟨c, v, e, hc.keeps y.keep, y.zn _ o eo hz⟩
  · obtain ⟨pl, V⟩ := x.vars
    refine ⟨pl, fun n sl e => ?_, V.out, V.inj, V.og⟩
    obtain ⟨v, hv, hs⟩ := V.at_ n sl e
    exact ⟨v, hv.keeps y.keep, hs.step y.keep y.z y.zn⟩
/-- reading a name -/
theorem Sees.load {G : Gc} {env g Z ρ} {s : Shared} {A : Around} {E : Value → Shared → Prop} {x : Str} {sl : Slot} {Q : Value → Shared → Prop} (S : Sees G env g Z ρ s.heap) (e : ρ.lookup x = some sl)
    (h : ∀ v o, VarAt env s.heap x v → SlotH Z s.heap sl v o → Q v s) (hn : (x == ("__classdict__" : Str)) = false) : wpAny (model G.prog G.w) A (loadName env x) Q E s := by
  obtain ⟨pl, V⟩ := S.vars
  obtain ⟨v, hv, hs⟩ := V.at_ x sl e
  have q := h v _ hv hs
  rcases hv with ⟨a, m, hm, hx⟩ | ⟨a | a, c, hc, hx⟩
  · exact wpAny_loadName_local S.ek a hm hx q
  · exact wpAny_loadName_cell S.ek a hc hx q
  · exact wpAny_loadName_free S.ek a hc hx q hn
theorem loadName_global {M : Model} {A : Around} {E : Value → Shared → Prop} {s : Shared} {env : Env} {x : Str} {Q : Value → Shared → Prop} (hk : env.scope.kind = .function) (hl : env.kindOf x = some .globalImplicit)
    (h : wpAny M A (loadGlobal env x) Q E s) : wpAny M A (loadName env x) Q E s := by
  unfold loadName
  simp only [Env.blockKind, hk, hl, ScopeKind.isAnnotationScope, Bool.false_and, Bool.false_eq_true, if_false]
  exact h
/-- reading a global name of the text's own -/
theorem Sees.global {G : Gc} {env g Z ρ} {s : Shared} {A : Around} {E : Value → Shared → Prop} {x : Str} {v : Value} {Q : Value → Shared → Prop} (S : Sees G env g Z ρ s.heap)
    (hl : env.kindOf x = some .globalImplicit) (e : nsIn G.K mainGlobals x = some (some v)) (h : Q v s) : wpAny (model G.prog G.w) A (loadName env x) Q E s := by
  have B := S.z0.bs S.zin
  refine loadName_global S.ek hl ?_
  unfold loadGlobal
  rw [S.eg]
  refine wpAny_bind (wpAny_nsGet B.t.g ?_)
  rw [mg_of B.k B.t.g e]
  exact wpAny_pure h
/-- reading a built-in's name -/
theorem Sees.builtin {G : Gc} {env g Z ρ} {s : Shared} {A : Around} {E : Value → Shared → Prop} {x : Str} {v : Value} {Q : Value → Shared → Prop} (S : Sees G env g Z ρ s.heap)
    (hl : env.kindOf x = some .globalImplicit) (e : nsIn G.K mainGlobals x = some none) (hv : bootBuiltins x = some v) (hn : x ≠ "__name__") (h : Q v s) : wpAny (model G.prog G.w) A (loadName env x) Q E s := by
  have B := S.z0.bs S.zin
  refine loadName_global S.ek hl ?_
  unfold loadGlobal
  rw [S.eg, S.eb]
  refine wpAny_bind (wpAny_nsGet B.t.g ?_)
  rw [mg_none_of B.k B.t.g e]
  refine wpAny_bind (wpAny_nsGet B.t.b ?_)
  rw [(B.t.builtins x hn).trans hv]
  exact wpAny_pure h
end M3
end
-- part C3
section
namespace M3
open PySem PySem.Calls PySem.Spec PyProof.Rows PySem.W
def Rho.set : Rho → Str → Slot → Rho
  | [], x, sl => [(x, sl)]
  | (y, t) :: r, x, sl => if x == y then (x, sl) :: r else (y, t) :: Rho.set r x sl
theorem Rho.lookup_set (ρ : Rho) (x : Str) (sl : Slot) (y : Str) : (Rho.set ρ x sl).lookup y = if y = x then some sl else ρ.lookup y := by
  induction ρ with
  | nil =>
    simp only [Rho.set, List.lookup]
    by_cases h : y = x
    · subst h; simp
    · have : (y == x) = false := by simpa using h
      simp [this, h]
  | cons p r ih =>
    obtain ⟨z, t⟩ := p
    unfold Rho.set
    by_cases hx : x = z
    · subst hx
      simp only [beq_self_eq_true, if_true, List.lookup]
      by_cases h : y = x
      · subst h; simp
      · have : (y == x) = false := by simpa using h
        simp [this, h]
    · have hxz : (x == z) = false := by simpa using hx
      simp only [hxz, Bool.false_eq_true, if_false, List.lookup]
      cases hyz : y == z with
      | true =>
        have e : y = z := by simpa using hyz
        have : ¬ y = x := fun h => hx (h.symm.trans e)
        simp [this]
      | false => simp only [ih]
/-- room for n calls, one within another -/
structure Room (n : Nat) (A : Around) : Prop where
  hh : A.handled = none
  hd : A.depth + 5 * n < recursionLimit
  hu : A.units + 50 * n < cLine
theorem Room.le {n m : Nat} {A : Around} (r : Room n A) (h : m ≤ n) : Room m A := ⟨r.hh, by have := r.hd; omega, by have := r.hu; omega⟩
theorem Room.depth {n : Nat} {A : Around} (r : Room n A) : A.depth < recursionLimit := by have := r.hd; omega
theorem Room.units {n : Nat} {A : Around} (r : Room n A) : A.units < cLine := by have := r.hu; omega
theorem Room.units' {n k : Nat} {A : Around} (r : Room (n + 1) A) (h : k < 50) : A.units + k < cLine := by have := r.hu; omega
section
variable (G : Gc)
/-- the expression's value, and that nothing that stood is turned -/
def Ev (n : Nat) (sc : Scope) (ρ : Rho) (e : Expr) (d : D) : Prop :=
  ∀ (A : Around) (env : Env) (g : Heap) (Z : Zm) (s : Shared) (Q : Value → Shared → Prop) (E : Value → Shared → Prop), Room n A → env.scope = sc → Sees G env g Z ρ s.heap →
    (∀ v Z' s', PStep Z s Z' s' → Holds Z' d v → Q v s') → wpAny (model G.prog G.w) A (eval e env) Q E s
/-- the expression's value is a new list -/
def EvL (n : Nat) (sc : Scope) (ρ : Rho) (e : Expr) (l : List D) : Prop :=
  ∀ (A : Around) (env : Env) (g : Heap) (Z : Zm) (s : Shared) (Q : Value → Shared → Prop) (E : Value → Shared → Prop), Room n A → env.scope = sc → Sees G env g Z ρ s.heap →
    (∀ a vs Z' s', PStep Z s Z' s' → s.heap.get? a = none → Z' a = none → PL s'.heap a vs.toArray → HoldsL Z' l vs → Q (.ref a) s') → wpAny (model G.prog G.w) A (eval e env) Q E s
/-- the test's answer -/
def Tr (n : Nat) (sc : Scope) (ρ : Rho) (e : Expr) (b : Bool) : Prop :=
  ∀ (A : Around) (env : Env) (g : Heap) (Z : Zm) (s : Shared) (Q : Bool → Shared → Prop) (E : Value → Shared → Prop), Room n A → env.scope = sc → Sees G env g Z ρ s.heap →
    (∀ Z' s', PStep Z s Z' s' → Q b s') → wpAny (model G.prog G.w) A (isTrue e env (eval e env)) Q E s
/-- the values of several expressions, from left to right -/
def Evs (n : Nat) (sc : Scope) (ρ : Rho) (es : List Expr) (ds : List D) : Prop :=
  ∀ (pos : Pos) (A : Around) (env : Env) (g : Heap) (Z : Zm) (s : Shared) (Q : List Value → Shared → Prop) (E : Value → Shared → Prop), Room n A → env.scope = sc → Sees G env g Z ρ s.heap →
    (∀ vs Z' s', PStep Z s Z' s' → HoldsL Z' ds vs → Q vs s') → wpAny (model G.prog G.w) A (spliced (backTo pos (starEach es env))) Q E s
/-- a def of the text: data in, data out -/
def Fn (n : Nat) (f : Addr) (ds : List D) (d : D) : Prop :=
  ∀ (A : Around) (Z : Zm) (s : Shared) (vs : List Value) (Q : Value → Shared → Prop) (E : Value → Shared → Prop), Room n A → G.Z0 Z → Zin Z s.heap → HoldsL Z ds vs →
    (∀ v Z' s', PStep Z s Z' s' → Holds Z' d v → Q v s') → wpAny (model G.prog G.w) A (call (.ref f) vs) Q E s
def FnL (n : Nat) (f : Addr) (ds : List D) (l : List D) : Prop :=
  ∀ (A : Around) (Z : Zm) (s : Shared) (vs : List Value) (Q : Value → Shared → Prop) (E : Value → Shared → Prop), Room n A → G.Z0 Z → Zin Z s.heap → HoldsL Z ds vs →
    (∀ a vs' Z' s', PStep Z s Z' s' → s.heap.get? a = none → Z' a = none → PL s'.heap a vs'.toArray → HoldsL Z' l vs' → Q (.ref a) s') → wpAny (model G.prog G.w) A (call (.ref f) vs) Q E s
structure SeesF (env : Env) (g : Heap) (Zg Z : Zm) (ρ : Rho) (h : Heap) : Prop where
  sees : Sees G env g Z ρ h
  keep : ∀ b o, g.get? b = some o → h.get? b = some o
  zg : Zle Zg Z
  zng : ∀ a o, g.get? a = some o → Zg a = none → Z a = none
  lf : g.get? env.locals = none
  nofree : ∀ x, env.kindOf x ≠ some .free
  cf : ∀ x c, env.kindOf x = some .cell → env.cells.lookup x = some c → g.get? c = none
inductive Out where
  | nx (ρ : Rho)
  | brk (ρ : Rho)
  | ret (d : D)
  | retL (l : List D)
structure Done (g : Heap) (Zg Z : Zm) (h : Heap) : Prop where
  zin : Zin Z h
  keep : ∀ b o, g.get? b = some o → h.get? b = some o
  zg : Zle Zg Z
  zng : ∀ a o, g.get? a = some o → Zg a = none → Z a = none
def OutH (out : Out) (env : Env) (g : Heap) (Zg Z : Zm) (h : Heap) (f : Flow) : Prop := match out with
  | .nx ρ => f = .next ∧ SeesF G env g Zg Z ρ h
  | .brk ρ => f = .brk ∧ SeesF G env g Zg Z ρ h
  | .ret d => ∃ v, f = .ret v ∧ Holds Z d v ∧ Done g Zg Z h
  | .retL l => ∃ a vs, f = .ret (.ref a) ∧ g.get? a = none ∧ Z a = none ∧ PL h a vs.toArray ∧ HoldsL Z l vs ∧ Done g Zg Z h
def Ex (n : Nat) (sc : Scope) (ρ : Rho) (ss : List Stmt) (out : Out) : Prop :=
  ∀ (A : Around) (env : Env) (g : Heap) (Zg Z : Zm) (s : Shared) (Q : Flow → Shared → Prop) (E : Value → Shared → Prop), Room n A → env.scope = sc → SeesF G env g Zg Z ρ s.heap →
    (∀ f Z' s', (∃ h' tk, s' = { s with heap := h', toks := tk }) → OutH G out env g Zg Z' s'.heap f → Q f s') → wpAny (model G.prog G.w) A (execs ss env) Q E s
/-- one statement -/
def Ex1 (n : Nat) (sc : Scope) (ρ : Rho) (st : Stmt) (out : Out) : Prop :=
  ∀ (A : Around) (env : Env) (g : Heap) (Zg Z : Zm) (s : Shared) (Q : Flow → Shared → Prop) (E : Value → Shared → Prop), Room n A → env.scope = sc → SeesF G env g Zg Z ρ s.heap →
    (∀ f Z' s', (∃ h' tk, s' = { s with heap := h', toks := tk }) → OutH G out env g Zg Z' s'.heap f → Q f s') → wpAny (model G.prog G.w) A (exec st env) Q E s
end
section
variable {G : Gc} {n : Nat} {sc : Scope} {ρ : Rho}
theorem SeesF.done {env g Zg Z ρ h} (x : SeesF G env g Zg Z ρ h) : Done g Zg Z h := ⟨x.sees.zin, x.keep, x.zg, x.zng⟩
theorem SeesF.step {env g Zg Z ρ s Z' s'} (x : SeesF G env g Zg Z ρ s.heap) (y : PStep Z s Z' s') : SeesF G env g Zg Z' ρ s'.heap :=
  ⟨x.sees.step y, fun b o e => y.keep _ _ (x.keep b o e), x.zg.trans y.z, fun a o e n => y.zn a o (x.keep a o e) (x.zng a o e n), x.lf, x.nofree, x.cf⟩
theorem Done.step {g Zg Z s Z' s'} (x : Done g Zg Z s.heap) (y : PStep Z s Z' s') : Done g Zg Z' s'.heap :=
  ⟨y.zin, fun b o e => y.keep _ _ (x.keep b o e), x.zg.trans y.z, fun a o e n => y.zn a o (x.keep a o e) (x.zng a o e n)⟩
theorem Ex.nil : Ex G n sc ρ [] (.nx ρ) := fun A env g Zg Z s Q E _ _ S h => wpAny_execs_nil (h _ Z s ⟨s.heap, s.toks, rfl⟩ ⟨rfl, S⟩)
theorem Ex.cons {st : Stmt} {ss : List Stmt} {ρ' : Rho} {out : Out} (a : Ex1 G n sc ρ st (.nx ρ')) (b : Ex G n sc ρ' ss out) : Ex G n sc ρ (st :: ss) out := by
  intro A env g Zg Z s Q E r e S h
  refine wpAny_execs_cons (a A env g Zg Z s _ E r e S fun f Z' s' hs ho => ?_)
  obtain ⟨rfl, S'⟩ := ho
  obtain ⟨h1, t1, rfl⟩ := hs
  exact b A env g Zg Z' _ Q E r e S' fun f Z'' s'' hs' ho => h f Z'' s'' (by obtain ⟨h2, t2, rfl⟩ := hs'; exact ⟨h2, t2, rfl⟩) ho
def Out.leaves : Out → Prop
  | .nx _ => False
  | _ => True
theorem Ex.leave {st : Stmt} {ss : List Stmt} {out : Out} (a : Ex1 G n sc ρ st out) (l : out.leaves := by trivial) : Ex G n sc ρ (st :: ss) out := by
  intro A env g Zg Z s Q E r e S h
  refine wpAny_execs_cons (a A env g Zg Z s _ E r e S fun f Z' s' hs ho => ?_)
  have q := h f Z' s' hs ho
  cases out with
  | nx => exact l.elim
  | brk => obtain ⟨rfl, _⟩ := ho; exact q
  | ret => obtain ⟨v, rfl, _⟩ := ho; exact q
  | retL => obtain ⟨a, vs, rfl, _⟩ := ho; exact q
theorem Ex1.ret {e : Expr} {d : D} {pos : Pos} (a : Ev G n sc ρ e d) : Ex1 G n sc ρ (.Return (some e) pos) (.ret d) := by
  intro A env g Zg Z s Q E r he S h
  refine wpAny_Return_some (a A env g Z s _ E r he S.sees fun v Z' s' st hv => ?_)
  exact h _ Z' s' st.st ⟨v, rfl, hv, S.done.step st⟩
theorem Ex1.retL {e : Expr} {l : List D} {pos : Pos} (a : EvL G n sc ρ e l) : Ex1 G n sc ρ (.Return (some e) pos) (.retL l) := by
  intro A env g Zg Z s Q E r he S h
  refine wpAny_Return_some (a A env g Z s _ E r he S.sees fun v vs Z' s' st hn hz hl hh => ?_)
  refine h _ Z' s' st.st ⟨v, vs, rfl, ?_, hz, hl, hh, S.done.step st⟩
  cases q : g.get? v with
  | none => rfl
  | some o => rw [S.keep _ _ q] at hn; cases hn
theorem Ex1.if_ {c : Expr} {b : Bool} {t f : List Stmt} {pos : Pos} {out : Out} (hc : Tr G n sc ρ c b) (h : Ex G n sc ρ (if b then t else f) out) : Ex1 G n sc ρ (.If c t f pos) out := by
  intro A env g Zg Z s Q E r he S hq
  refine wpAny_If (hc A env g Z s _ E r he S.sees fun Z' s' st => ?_)
  have key : wpAny (model G.prog G.w) A (execs (if b then t else f) env) Q E s' := by
    obtain ⟨h1, t1, rfl⟩ := st.st
    exact h A env g Zg Z' _ Q E r he (S.step st) fun f' Z'' s'' hs ho => hq f' Z'' s'' (by obtain ⟨h2, t2, rfl⟩ := hs; exact ⟨h2, t2, rfl⟩) ho
  cases b <;> exact key
theorem EvL.ev {e : Expr} {l : List D} (a : EvL G n sc ρ e l) : Ev G n sc ρ e (.list l) := by
  intro A env g Z s Q E r he S h
  refine a A env g Z s Q E r he S fun ad vs Z' s' st hn hz hl hh => ?_
  obtain ⟨o, ho, hc, k, hd⟩ := id hl
  refine h _ _ _ (st.freeze hn hz ho) ⟨ad, vs, rfl, ⟨o, Zm.add_self .., hc, k, hd⟩, HoldsL.mono (Zm.le_add hz) hh⟩
theorem Ev.le {m n : Nat} {e d} (h : Ev G m sc ρ e d) (hmn : m ≤ n) : Ev G n sc ρ e d := fun A env g Z s Q E r => h A env g Z s Q E (r.le hmn)
end
end M3
end
-- part C4
section
namespace M3
open PySem PySem.Calls PySem.Spec PyProof.Rows PySem.W
theorem SlotH.other {Z : Zm} {h h' : Heap} {sl : Slot} {v : Value} {o : Option Addr} {a : Addr} (x : SlotH Z h sl v o) (hs : Heap.SameBut a h h') (ha : ∀ b vs, PL h b vs → b ≠ a) : SlotH Z h' sl v o := by
  have up : ∀ {b vs}, PL h b vs → PL h' b vs := fun {b vs} y => by
    obtain ⟨ob, e, r⟩ := id y
    exact ⟨ob, (hs.2 b (ha b vs y)).trans e, r⟩
  cases sl with
  | fz d => exact x
  | own l => obtain ⟨b, vs, e, ev, hz, hl, hh⟩ := x; exact ⟨b, vs, e, ev, hz, up hl, hh⟩
  | hdr c l => obtain ⟨xx, b, vs, e, ev, hi, hz, hl, hh⟩ := x; exact ⟨xx, b, vs, e, ev, hi, hz, up hl, hh⟩
section
variable {G : Gc} {n : Nat} {sc : Scope} {ρ : Rho} {A : Around} {E : Value → Shared → Prop}
/-- a store: one object of the frame's own is turned -/
theorem Sees.put {env g Z h h'} {x : Str} {v : Value} {sl : Slot} {o : Option Addr} {a : Addr} (S : Sees G env g Z ρ h) (hs : Heap.SameBut a h h') (hza : Z a = none)
    (pl : Str → Option Addr) (V : Vars env g Z ρ h pl)
    (hl : (∃ m, h.Ns a m) ∨ ∃ v, h.IsCell a v)
    (hvar : VarAt env h' x v) (hoth : ∀ y w, y ≠ x → VarAt env h y w → VarAt env h' y w)
    (hns : ∃ m, h'.Ns env.locals m) (hcl : ∀ y c w, (env.kindOf y = some .cell ∨ env.kindOf y = some .free) → env.cells.lookup y = some c → h.IsCell c w → ∃ w', h'.IsCell c w')
    (hsl : SlotH Z h' sl v o) (hin : ∀ y b, y ≠ x → pl y = some b → o = some b → False) (hog : ∀ b, o = some b → g.get? b = none) :
    Sees G env g Z (ρ.set x sl) h' := by
  have hne : ∀ b vs, PL h b vs → b ≠ a := fun b vs y e => by
    subst e
    rcases hl with ⟨m, q⟩ | ⟨v, q⟩
    · exact Ns.ne_list q y rfl
    · exact IsCell.ne_list q y rfl
  refine ⟨S.z0, fun b ob e => ?_, S.ek, S.eg, S.eb, hns, S.nz, fun y hk => ?_, S.cinj, fun y => if y = x then o else pl y, fun y t e => ?_, fun y e => ?_, fun y z b e1 e2 => ?_, fun y b e => ?_⟩
  · have : b ≠ a := fun q => by rw [q, hza] at e; cases e
    exact (hs.2 b this).trans (S.zin b ob e)
  · obtain ⟨c, w, e, hc, hz⟩ := S.cells y hk
    obtain ⟨w', hw⟩ := hcl y c w hk e hc
    exact ⟨c, w', e, hw, hz⟩
  · rw [Rho.lookup_set] at e
    by_cases hy : y = x
    · subst hy
      rw [if_pos rfl] at e
      cases e
      exact ⟨v, hvar, by rw [if_pos rfl]; exact hsl⟩
    · rw [if_neg hy] at e
      obtain ⟨w, hw, hsw⟩ := V.at_ y t e
      exact ⟨w, hoth y w hy hw, by rw [if_neg hy]; exact hsw.other hs hne⟩
  · rw [Rho.lookup_set] at e
    by_cases hy : y = x
    · rw [if_pos hy] at e; cases e
    · rw [if_neg hy] at e
      show (if y = x then o else pl y) = none
      rw [if_neg hy]; exact V.out y e
  · replace e1 : (if y = x then o else pl y) = some b := e1
    replace e2 : (if z = x then o else pl z) = some b := e2
    by_cases hy : y = x <;> by_cases hz : z = x
    · rw [hy, hz]
    · rw [if_pos hy] at e1; rw [if_neg hz] at e2; exact (hin z b hz e2 e1).elim
    · rw [if_neg hy] at e1; rw [if_pos hz] at e2; exact (hin y b hy e1 e2).elim
    · rw [if_neg hy] at e1; rw [if_neg hz] at e2; exact V.inj y z b e1 e2
  · replace e : (if y = x then o else pl y) = some b := e
    by_cases hy : y = x
    · rw [if_pos hy] at e; exact hog b e
    · rw [if_neg hy] at e; exact V.og y b e
/-- storing into a name of the frame's own -/
theorem Sees.store {env g Z} {s : Shared} {x : Str} {v : Value} {sl : Slot} {o : Option Addr} {Q : Unit → Shared → Prop} (S : Sees G env g Z ρ s.heap) (hx : env.kindOf x = some .local ∨ env.kindOf x = some .cell)
    (hsl : SlotH Z s.heap sl v o) (hin : ∀ pl, Vars env g Z ρ s.heap pl → ∀ y b, y ≠ x → pl y = some b → o = some b → False) (hog : ∀ b, o = some b → g.get? b = none)
    (h : ∀ h' tk a, Sees G env g Z (ρ.set x sl) h' → Heap.SameBut a s.heap h' → (a = env.locals ∨ (env.kindOf x = some .cell ∧ env.cells.lookup x = some a)) → Q () { s with heap := h', toks := tk }) :
    wpAny (model G.prog G.w) A (storeName env x v) Q E s := by
  obtain ⟨pl, V⟩ := S.vars
  have hp : (env.scope.kind == .class || (env.scope.kind == .module && env.locals != env.globals)) = false := by rw [S.ek]; rfl
  rcases hx with hx | hx
  · obtain ⟨m, hm⟩ := S.ns
    refine wpAny_storeName_local hx hm (fun h' hn' hs' => ?_) hp
    refine h h' _ env.locals ?_ hs' (.inl rfl)
    have ncell : ∀ {c w}, s.heap.IsCell c w → c ≠ env.locals := fun q e => Ns.ne_cell hm q e.symm
    have nlist : ∀ b vs, PL s.heap b vs → b ≠ env.locals := fun b vs y e => Ns.ne_list hm y e.symm
    refine S.put hs' S.nz pl V (.inl ⟨m, hm⟩) (.inl ⟨hx, _, hn', by simp⟩) ?_ ⟨_, hn'⟩ (fun y c w hk e hc => ⟨w, hc.sameBut hs' (ncell hc)⟩) (hsl.other hs' nlist) (hin pl V) hog
    intro y w hy hw
    rcases hw with ⟨a, m', hm', hy'⟩ | ⟨a, c, hc, hv⟩
    · refine .inl ⟨a, _, hn', ?_⟩
      rw [Ns.unique hm' hm] at hy'
      simp [hy, hy']
    · exact .inr ⟨a, c, hc, hv.sameBut hs' (ncell hv)⟩
  · obtain ⟨c, w, hc, hcell, hz⟩ := S.cells x (.inl hx)
    refine wpAny_storeName_cell S.ek hx hc hcell fun h' hn' hs' => ?_
    refine h h' _ c ?_ hs' (.inr ⟨hx, hc⟩)
    obtain ⟨m, hm⟩ := S.ns
    have nlist : ∀ b vs, PL s.heap b vs → b ≠ c := fun b vs y e => IsCell.ne_list hcell y e.symm
    have nns : env.locals ≠ c := Ns.ne_cell hm hcell
    refine S.put hs' hz pl V (.inr ⟨w, hcell⟩) (.inr ⟨.inl hx, c, hc, hn'⟩) ?_ ⟨m, hm.sameBut hs' nns⟩ (fun y c' w' hk e hc' => ?_) (hsl.other hs' nlist) (hin pl V) hog
    · intro y u hy hu
      rcases hu with ⟨a, m', hm', hy'⟩ | ⟨a, c', hc', hv⟩
      · exact .inl ⟨a, m', hm'.sameBut hs' nns, hy'⟩
      · refine .inr ⟨a, c', hc', hv.sameBut hs' fun q => hy ?_⟩
        subst q
        exact S.cinj y x _ a (.inl hx) hc' hc
    · by_cases q : c' = c
      · subst q; exact ⟨_, hn'⟩
      · exact ⟨w', hc'.sameBut hs' q⟩
theorem SeesF.store {env g Zg Z} {s : Shared} {x : Str} {v : Value} {sl : Slot} {o : Option Addr} {Q : Unit → Shared → Prop} (S : SeesF G env g Zg Z ρ s.heap) (hx : env.kindOf x = some .local ∨ env.kindOf x = some .cell)
    (hsl : SlotH Z s.heap sl v o) (hin : ∀ pl, Vars env g Z ρ s.heap pl → ∀ y b, y ≠ x → pl y = some b → o = some b → False) (hog : ∀ b, o = some b → g.get? b = none)
    (h : ∀ h' tk, SeesF G env g Zg Z (ρ.set x sl) h' → (∃ a, Heap.SameBut a s.heap h' ∧ (a = env.locals ∨ (env.kindOf x = some .cell ∧ env.cells.lookup x = some a))) → Q () { s with heap := h', toks := tk }) :
    wpAny (model G.prog G.w) A (storeName env x v) Q E s := by
  refine S.sees.store hx hsl hin hog fun h' tk a S' hs ha => (fun X => h h' tk X ⟨a, hs, ha⟩) ⟨S', fun b ob e => ?_, S.zg, S.zng, S.lf, S.nofree, S.cf⟩
  have : b ≠ a := by
    rintro rfl
    rcases ha with rfl | ⟨hk, hc⟩
    · rw [S.lf] at e; cases e
    · rw [S.cf x _ hk hc] at e; cases e
  exact (hs.2 b this).trans (S.keep b ob e)
/-- storing data -/
theorem SeesF.storeFz {env g Zg Z} {s : Shared} {x : Str} {v : Value} {d : D} {Q : Unit → Shared → Prop} (S : SeesF G env g Zg Z ρ s.heap) (hx : env.kindOf x = some .local ∨ env.kindOf x = some .cell)
    (hd : Holds Z d v) (h : ∀ h' tk, SeesF G env g Zg Z (ρ.set x (.fz d)) h' → Q () { s with heap := h', toks := tk }) : wpAny (model G.prog G.w) A (storeName env x v) Q E s :=
  S.store (o := none) (sl := .fz d) hx ⟨rfl, hd⟩ (fun _ _ _ _ _ _ e => nomatch e) (fun _ e => nomatch e) fun h' tk S' _ => h h' tk S'
/-- storing a new list of the frame's own; it was made in a pure step -/
theorem SeesF.storeOwn {env g Zg Z₀ Z} {s₀ s : Shared} {x : Str} {a : Addr} {vs : List Value} {l : List D} {Q : Unit → Shared → Prop} (S₀ : SeesF G env g Zg Z₀ ρ s₀.heap) (st : PStep Z₀ s₀ Z s)
    (hx : env.kindOf x = some .local ∨ env.kindOf x = some .cell) (hn : s₀.heap.get? a = none) (hz : Z a = none) (hl : PL s.heap a vs.toArray) (hh : HoldsL Z l vs)
    (h : ∀ h' tk, SeesF G env g Zg Z (ρ.set x (.own l)) h' → (∃ a, Heap.SameBut a s.heap h' ∧ (a = env.locals ∨ (env.kindOf x = some .cell ∧ env.cells.lookup x = some a))) → Q () { s with heap := h', toks := tk }) : wpAny (model G.prog G.w) A (storeName env x (.ref a)) Q E s := by
  obtain ⟨pl₀, V₀⟩ := S₀.sees.vars
  -- the places of the names stay what they were: they are told by the slots
  refine (S₀.step st).store (o := some a) (sl := .own l) hx ⟨a, vs, rfl, rfl, hz, hl, hh⟩ ?_ ?_ h
  · intro pl V y b hy e1 e2
    cases e2
    cases q : ρ.lookup y with
    | none => rw [V.out y q] at e1; cases e1
    | some t =>
      obtain ⟨w, hw, hs⟩ := V.at_ y t q
      obtain ⟨w₀, hw₀, hs₀⟩ := V₀.at_ y t q
      have same : w₀ = w := by
        have hw₁ := hw₀.keeps st.keep
        rcases hw₁ with ⟨k, m, hm, e⟩ | ⟨k, c, hc, e⟩ <;> rcases hw with ⟨k', m', hm', e'⟩ | ⟨k', c', hc', e'⟩
        · rw [Ns.unique hm hm'] at e; rw [e] at e'; exact Option.some.inj e'
        · rw [k] at k'; rcases k' with k' | k' <;> cases k'
        · rw [k'] at k; rcases k with k | k <;> cases k
        · rw [hc] at hc'; cases hc'
          have := IsCell.unique e e'
          exact Option.some.inj (Option.some.inj this ▸ rfl)
      subst same
      rw [e1] at hs
      cases t with
      | fz d => cases hs.1
      | own l' =>
        obtain ⟨c, us, e, ev, _, hlc, _⟩ := hs
        obtain ⟨c₀, us₀, e₀, ev₀, _, hlc₀, _⟩ := hs₀
        cases e
        rw [ev] at ev₀; cases ev₀
        obtain ⟨oc, eo⟩ := IsList.get hlc₀
        rw [hn] at eo; cases eo
      | hdr cc l' =>
        obtain ⟨xx, c, us, e, ev, hi, hzc, hlc, _⟩ := hs
        obtain ⟨xx₀, c₀, us₀, e₀, ev₀, hi₀, hzc₀, hlc₀, _⟩ := hs₀
        cases e
        rw [ev] at ev₀; cases ev₀
        obtain ⟨dx, es, k, e1, e2, e3⟩ := hi
        obtain ⟨dx', es', k', e1', e2', e3'⟩ := hi₀
        have z1 := st.z _ _ e1'
        rw [e1] at z1
        have hdx : dx = dx' := by
          have := Option.some.inj z1
          unfold instObj at this
          injection this with _ q _ _
          exact Option.some.inj q
        subst hdx
        have z2 := st.z _ _ e2'
        rw [e2] at z2
        have hes : es = es' := by
          have := Option.some.inj z2
          injection this with _ _ q _
          injection q with q _
          exact List.toArray_inj q
        subst hes
        match es, e3, e3' with
        | [en], ⟨⟨_, _, r1⟩, _⟩, ⟨⟨_, _, r2⟩, _⟩ =>
          rw [r1] at r2
          injection r2 with _ _ r3
          cases r3
          obtain ⟨oc, eo⟩ := IsList.get hlc₀
          rw [hn] at eo; cases eo
        | [], r, _ => exact r.elim
        | _ :: _ :: _, ⟨_, r⟩, _ => exact r.elim
  · intro b e
    cases e
    cases q : g.get? a with
    | none => rfl
    | some o => rw [S₀.keep _ _ q] at hn; cases hn
end
end M3
end
-- part C5
section
namespace M3
open PySem PySem.Calls PySem.Spec PyProof.Rows PySem.W
theorem bindL_out {k : Str → Option NameKind} {x : Str} : ∀ {binds : List (Str × Value)} {m : Str → Option Value}, x ∉ binds.map (·.1) → bindL k binds m x = m x
  | [], _, _ => rfl
  | (y, v) :: r, m, h => by
    unfold bindL
    rw [bindL_out fun q => h (List.mem_cons_of_mem _ q)]
    split
    · have : x ≠ y := fun e => h (by rw [e]; exact List.mem_cons_self)
      simp [this]
    · rfl
theorem bindC_out {k : Str → Option NameKind} {x : Str} : ∀ {binds : List (Str × Value)} {m : Str → Option Value}, x ∉ binds.map (·.1) → bindC k binds m x = m x
  | [], _, _ => rfl
  | (y, v) :: r, m, h => by
    unfold bindC
    rw [bindC_out fun q => h (List.mem_cons_of_mem _ q)]
    split
    · rfl
    · have : x ≠ y := fun e => h (by rw [e]; exact List.mem_cons_self)
      simp [this]
theorem bindL_in {k : Str → Option NameKind} {x : Str} {v : Value} (hk : k x = some .local) : ∀ {binds : List (Str × Value)} {m : Str → Option Value}, (binds.map (·.1)).Nodup → binds.lookup x = some v → bindL k binds m x = some v
  | [], _, _, h => by cases h
  | (y, w) :: r, m, hn, h => by
    rw [List.map_cons, List.nodup_cons] at hn
    unfold bindL
    rw [List.lookup_cons] at h
    cases q : x == y with
    | true =>
      rw [q] at h; cases h
      have e : x = y := by simpa using q
      subst e
      rw [bindL_out hn.1, if_pos hk]; simp
    | false =>
      rw [q] at h
      exact bindL_in hk hn.2 h
theorem bindC_in {k : Str → Option NameKind} {x : Str} {v : Value} (hk : k x = some .cell) : ∀ {binds : List (Str × Value)} {m : Str → Option Value}, (binds.map (·.1)).Nodup → binds.lookup x = some v → bindC k binds m x = some v
  | [], _, _, h => by cases h
  | (y, w) :: r, m, hn, h => by
    rw [List.map_cons, List.nodup_cons] at hn
    unfold bindC
    rw [List.lookup_cons] at h
    cases q : x == y with
    | true =>
      rw [q] at h; cases h
      have e : x = y := by simpa using q
      subst e
      have : ¬ k x = some .local := by rw [hk]; decide
      rw [bindC_out hn.1, if_neg this]; simp
    | false =>
      rw [q] at h
      exact bindC_in hk hn.2 h
/-- what the world says of a def -/
structure FnAt (G : Gc) (f : Addr) (fd : FuncData) (body : List Stmt) : Prop where
  at_ : ∃ o, G.K.lookup f = some o ∧ o.data = .func fd
  code : codeIn G.K fd.code fd.qualname = true
  body : fd.body = .stmts body
  clo : fd.closure = []
  glob : fd.globals = mainGlobals
  bl : fd.builtins = builtinsNs
  co : fd.scope.isCoroutine = false
  gen : fd.scope.isGenerator = false
  kind : fd.scope.kind = .function
  free : (fd.scope.names.all fun p => p.2 != .free) = true
theorem lookup_mem {α : Type} {l : List (Str × α)} {x : Str} {v : α} (h : l.lookup x = some v) : (x, v) ∈ l := mem_of_lookup h
section
variable {G : Gc} {n : Nat} {A : Around} {E : Value → Shared → Prop}
/-- entering a def: the callee's frame -/
theorem enter {f : Addr} {fd : FuncData} {body : List Stmt} {args : Args} {binds : List (Str × Value)} {R : Result → Shared → Prop} {s : Shared} {Z : Zm} {g : Heap} {ρ₀ : Rho} (F : FnAt G f fd body)
    (hroom : A.depth < recursionLimit) (z0 : G.Z0 Z) (zin : Zin Z s.heap) (hg : ∀ b o, g.get? b = some o → s.heap.get? b = some o)
    (hbind : BindsTo s fd args binds) (hnd : (binds.map (·.1)).Nodup) (hkind : (binds.all fun y => fd.scope.names.lookup y.1 == some .local || fd.scope.names.lookup y.1 == some .cell) = true)
    (pl : Str → Option Addr) (hb : ∀ x sl, ρ₀.lookup x = some sl → ∃ v, binds.lookup x = some v ∧ SlotH Z s.heap sl v (pl x)) (hout : ∀ x, ρ₀.lookup x = none → pl x = none)
    (hinj : ∀ x y a, pl x = some a → pl y = some a → x = y) (hog : ∀ x a, pl x = some a → g.get? a = none)
    (h : ∀ env s₁, (∃ h' tk, s₁ = { s with heap := h', toks := tk }) → (∀ b o, s.heap.get? b = some o → s₁.heap.get? b = some o) → env.scope = fd.scope → SeesF G env g Z Z ρ₀ s₁.heap →
      wpAny (model G.prog G.w) (A.deeper env) (execs body env) (fun f s' => R (.ok (.ret (match f with | .ret v => v | _ => .none))) s') (fun _ _ => False) s₁) :
    codeAny (model G.prog G.w) A (.call (.ref f) args) R s := by
  obtain ⟨o, ho, hdat⟩ := F.at_
  have B := z0.bs zin
  refine codeAny_call_function hroom (B.k _ _ ho) hdat F.co F.gen F.body (codeRec_of B.k F.code) (hbind _ _ _ _ ?_)
  rw [F.clo]
  refine wpAny_newFunctionEnv_cells F.kind (kindsX hkind _) fun env he s' x => ?_
  refine ⟨B.t.nolimit.keeps x.toInCall.keep, codeAny_func (wpAny_mono (h env s' x.toInCall.same x.toInCall.keep (by rw [he]; rfl) ?_) (fun _ _ q => q) fun _ _ q => q.elim)⟩
  have hsc : env.scope = fd.scope := by rw [he]; rfl
  have hL : env.locals = s.heap.objs.size := by rw [he]; rfl
  have hfresh : s.heap.get? env.locals = none := by rw [hL]; exact fresh_none
  have hko : ∀ y, env.kindOf y = fd.scope.names.lookup y := fun y => by unfold Env.kindOf; rw [hsc]
  have nofree : ∀ y, env.kindOf y ≠ some .free := by
    intro y e
    rw [hko] at e
    have := List.all_eq_true.mp F.free _ (lookup_mem e)
    simp at this
  have gnone : ∀ {a}, s.heap.get? a = none → g.get? a = none := fun {a} e => by
    cases q : g.get? a with
    | none => rfl
    | some o' => rw [hg _ _ q] at e; cases e
  have cnone : ∀ y c, env.cells.lookup y = some c → s.heap.get? c = none := by
    intro y c e
    have hc := x.above y c (lookup_mem e)
    rw [hL] at hc
    cases q : s.heap.get? c with
    | none => rfl
    | some o' => exact absurd (Heap.lt_size q) (Nat.not_lt.mpr (Nat.le_of_lt hc))
  refine ⟨⟨z0, fun a o e => x.toInCall.keep _ _ (zin _ _ e), by rw [hsc]; exact F.kind, by rw [he]; exact F.glob, by rw [he]; exact F.bl, ⟨_, x.toInCall.ns⟩, zin.none hfresh, ?_, ?_, pl, ?_⟩,
    fun b o e => x.toInCall.keep _ _ (hg b o e), Zle.refl _, fun _ _ _ e => e, gnone hfresh, nofree, fun y c hk hc => gnone (cnone y c hc)⟩
  · rintro y (hk | hk)
    · rw [hko] at hk
      have hs := cellsFrom_some (x := y) fd.scope.names (s.heap.objs.size + 1) [] (.inl hk)
      obtain ⟨c, hc⟩ := Option.isSome_iff_exists.mp hs
      have hc' : env.cells.lookup y = some c := by rw [he]; exact hc
      exact ⟨c, _, hc', x.cell y c hc', zin.none (cnone y c hc')⟩
    · exact absurd hk (nofree y)
  · intro y z c _ _ e1 e2
    exact name_of_addr x.apart (lookup_mem e1) (lookup_mem e2)
  · refine ⟨fun y sl e => ?_, hout, hinj, hog⟩
    obtain ⟨v, hv, hs⟩ := hb y sl e
    refine ⟨v, ?_, hs.step x.toInCall.keep (Zle.refl _) fun _ _ _ e => e⟩
    have hk := List.all_eq_true.mp hkind _ (lookup_mem hv)
    rcases Bool.or_eq_true_iff.mp hk with q | q
    · have q' : env.kindOf y = some .local := by rw [hko]; exact beq_iff_eq.mp q
      exact .inl ⟨q', _, x.toInCall.ns, bindL_in q' hnd hv⟩
    · have q' : env.kindOf y = some .cell := by rw [hko]; exact beq_iff_eq.mp q
      have hs := cellsFrom_some (x := y) fd.scope.names (s.heap.objs.size + 1) [] (.inl (beq_iff_eq.mp q))
      obtain ⟨c, hc⟩ := Option.isSome_iff_exists.mp hs
      have hc' : env.cells.lookup y = some c := by rw [he]; exact hc
      have := x.cell y c hc'
      rw [bindC_in q' hnd hv] at this
      exact .inr ⟨.inl q', c, hc', this⟩
def rho0 (ns : List Str) (ds : List D) : Rho := (ns.zip ds).map fun p => (p.1, Slot.fz p.2)
theorem rho0_at {Z : Zm} {h : Heap} : ∀ {ns : List Str} {ds : List D} {vs : List Value}, HoldsL Z ds vs → ∀ {x sl}, (rho0 ns ds).lookup x = some sl → ∃ v, (ns.zip vs).lookup x = some v ∧ SlotH Z h sl v none
  | [], _, _, _, x, sl, e => by cases e
  | _ :: _, [], _, _, x, sl, e => by cases e
  | n :: ns, d :: ds, _, ⟨v, vs, e, hv, hr⟩, x, sl, q => by
    subst e
    change List.lookup x ((n, Slot.fz d) :: rho0 ns ds) = some sl at q
    rw [List.lookup_cons] at q
    rw [List.zip_cons_cons, List.lookup_cons]
    cases b : x == n with
    | true => rw [b] at q; cases q; exact ⟨v, rfl, rfl, hv⟩
    | false => rw [b] at q; exact rho0_at hr q
theorem Room.call {env : Env} (r : Room (n + 1) A) : Room n (A.deeper env) := ⟨r.hh, by have := r.hd; show A.depth + 1 + 5 * n < recursionLimit; omega, by have := r.hu; show A.units + 3 + 50 * n < cLine; omega⟩
theorem rets {f : Flow} {v : Value} (e : f = .ret v) : (match f with | .ret v => v | _ => Value.none) = v := by subst e; rfl
/-- a def whose body is walked -/
theorem Fn.of {f : Addr} {fd : FuncData} {body : List Stmt} {ns : List Str} {ds : List D} {d : D} (F : FnAt G f fd body)
    (hbind : ∀ vs, vs.length = ds.length → bindArgs fd ⟨vs, []⟩ = pure (ns.zip vs)) (hnd : ns.Nodup) (hlen : ns.length = ds.length)
    (hkind : (ns.all fun y => fd.scope.names.lookup y == some .local || fd.scope.names.lookup y == some .cell) = true)
    (h : Ex G n fd.scope (rho0 ns ds) body (.ret d)) : Fn G (n + 1) f ds d := by
  intro A Z s vs Q E r z0 zin hh hq
  have hl : vs.length = ds.length := hh.length
  have hmap : (ns.zip vs).map (·.1) = ns := by rw [List.map_fst_zip]; omega
  refine wpAny_call (enter F r.depth z0 zin (fun _ _ e => e) (BindsTo.of_eq (hbind vs hl)) (by rw [hmap]; exact hnd) ?_ (fun _ => none) (fun x sl e => rho0_at hh e) (fun _ _ => rfl) (fun _ _ _ e => nomatch e) (fun _ _ e => nomatch e) fun env s₁ hs hk he S => ?_)
  · rw [List.all_eq_true]
    intro p hp
    have : p.1 ∈ ns := by have := List.mem_map_of_mem (f := (·.1)) hp; rwa [hmap] at this
    exact List.all_eq_true.mp hkind _ this
  · refine h (A.deeper env) env s.heap Z Z s₁ _ _ r.call he S fun fl Z' s' hs' ho => ?_
    obtain ⟨v, rfl, hv, D⟩ := ho
    obtain ⟨h1, t1, rfl⟩ := hs
    obtain ⟨h2, t2, rfl⟩ := hs'
    exact hq v Z' _ ⟨⟨h2, t2, rfl⟩, D.keep, D.zg, D.zin, D.zng⟩ hv
theorem FnL.of {f : Addr} {fd : FuncData} {body : List Stmt} {ns : List Str} {ds l : List D} (F : FnAt G f fd body)
    (hbind : ∀ vs, vs.length = ds.length → bindArgs fd ⟨vs, []⟩ = pure (ns.zip vs)) (hnd : ns.Nodup) (hlen : ns.length = ds.length)
    (hkind : (ns.all fun y => fd.scope.names.lookup y == some .local || fd.scope.names.lookup y == some .cell) = true)
    (h : Ex G n fd.scope (rho0 ns ds) body (.retL l)) : FnL G (n + 1) f ds l := by
  intro A Z s vs Q E r z0 zin hh hq
  have hl : vs.length = ds.length := hh.length
  have hmap : (ns.zip vs).map (·.1) = ns := by rw [List.map_fst_zip]; omega
  refine wpAny_call (enter F r.depth z0 zin (fun _ _ e => e) (BindsTo.of_eq (hbind vs hl)) (by rw [hmap]; exact hnd) ?_ (fun _ => none) (fun x sl e => rho0_at hh e) (fun _ _ => rfl) (fun _ _ _ e => nomatch e) (fun _ _ e => nomatch e) fun env s₁ hs hk he S => ?_)
  · rw [List.all_eq_true]
    intro p hp
    have : p.1 ∈ ns := by have := List.mem_map_of_mem (f := (·.1)) hp; rwa [hmap] at this
    exact List.all_eq_true.mp hkind _ this
  · refine h (A.deeper env) env s.heap Z Z s₁ _ _ r.call he S fun fl Z' s' hs' ho => ?_
    obtain ⟨a, vs', rfl, hga, hz, hl', hh', D⟩ := ho
    obtain ⟨h1, t1, rfl⟩ := hs
    obtain ⟨h2, t2, rfl⟩ := hs'
    exact hq a vs' Z' _ ⟨⟨h2, t2, rfl⟩, D.keep, D.zg, D.zin, D.zng⟩ hga hz hl' hh'
theorem FnL.fn {f : Addr} {ds l : List D} (h : FnL G n f ds l) : Fn G n f ds (.list l) := by
  intro A Z s vs Q E r z0 zin hh hq
  refine h A Z s vs Q E r z0 zin hh fun a vs' Z' s' st hn hz hl hh => ?_
  obtain ⟨o, ho, hc, k, hd⟩ := id hl
  exact hq _ _ _ (st.freeze hn hz ho) ⟨a, vs', rfl, ⟨o, Zm.add_self .., hc, k, hd⟩, HoldsL.mono (Zm.le_add hz) hh⟩
end
end M3
end
-- part C6
section
namespace M3
open PySem PySem.Calls PySem.Spec PyProof.Rows PySem.W
section
variable (G : Gc)
def Op2 (n : Nat) (op : Operator) (a b d : D) : Prop :=
  ∀ (A : Around) (Z : Zm) (s : Shared) (v w : Value) (Q : Value → Shared → Prop) (E : Value → Shared → Prop), Room n A → G.Z0 Z → Zin Z s.heap → Holds Z a v → Holds Z b w →
    (∀ r Z' s', PStep Z s Z' s' → Holds Z' d r → Q r s') → wpAny (model G.prog G.w) A (binaryOp op v w) Q E s
def Cmp (n : Nat) (op : CmpOp) (a b : D) (r : Bool) : Prop :=
  ∀ (A : Around) (Z : Zm) (s : Shared) (v w : Value) (Q : Value → Shared → Prop) (E : Value → Shared → Prop), Room n A → G.Z0 Z → Zin Z s.heap → Holds Z a v → Holds Z b w →
    (∀ Z' s', PStep Z s Z' s' → Q (.bool r) s') → wpAny (model G.prog G.w) A (compareOp op v w) Q E s
def Truth (n : Nat) (a : D) (r : Bool) : Prop :=
  ∀ (A : Around) (Z : Zm) (s : Shared) (v : Value) (Q : Bool → Shared → Prop) (E : Value → Shared → Prop), Room n A → G.Z0 Z → Zin Z s.heap → Holds Z a v →
    (∀ Z' s', PStep Z s Z' s' → Q r s') → wpAny (model G.prog G.w) A (truthy v) Q E s
end
section
variable {G : Gc} {n : Nat} {sc : Scope} {ρ : Rho}
theorem Op2.add_int {a b : Int} : Op2 G n .Add (.int a) (.int b) (.int (a + b)) := by
  rintro A Z s v w Q E r z0 zin ⟨t, rfl⟩ ⟨u, rfl⟩ h
  exact PyProof.Rows.add_int (h _ Z _ (PStep.tok zin _) ⟨_, rfl⟩)
theorem Op2.sub_int {a b : Int} : Op2 G n .Sub (.int a) (.int b) (.int (a - b)) := by
  rintro A Z s v w Q E r z0 zin ⟨t, rfl⟩ ⟨u, rfl⟩ h
  exact PyProof.Rows.sub_int (h _ Z _ (PStep.tok zin _) ⟨_, rfl⟩)
theorem Op2.mod_int {a b : Int} (hb : b ≠ 0) : Op2 G n .Mod (.int a) (.int b) (.int (a.fmod b)) := by
  rintro A Z s v w Q E r z0 zin ⟨t, rfl⟩ ⟨u, rfl⟩ h
  exact PyProof.Rows.mod_int hb (h _ Z _ (PStep.tok zin _) ⟨_, rfl⟩)
theorem Op2.add_str {x y : Str} (hsz : x.length + y.length ≤ sizeLine) : Op2 G n .Add (.str x) (.str y) (.str (x ++ y)) := by
  rintro A Z s v w Q E r z0 zin ⟨t, rfl⟩ ⟨u, rfl⟩ h
  exact PyProof.Rows.add_str (fun t' tk => h _ Z _ (PStep.tok zin _) ⟨_, rfl⟩) hsz
theorem Cmp.eq_int {a b : Int} : Cmp G n .Eq (.int a) (.int b) (a == b) := by
  rintro A Z s v w Q E r z0 zin ⟨t, rfl⟩ ⟨u, rfl⟩ h
  exact PyProof.Rows.eq_int (h Z _ (PStep.refl zin))
theorem Cmp.ne_int {a b : Int} : Cmp G n .NotEq (.int a) (.int b) (a != b) := by
  rintro A Z s v w Q E r z0 zin ⟨t, rfl⟩ ⟨u, rfl⟩ h
  exact PyProof.Rows.ne_int (h Z _ (PStep.refl zin))
theorem Cmp.lt_int {a b : Int} : Cmp G n .Lt (.int a) (.int b) (decide (a < b)) := by
  rintro A Z s v w Q E r z0 zin ⟨t, rfl⟩ ⟨u, rfl⟩ h
  exact PyProof.Rows.lt_int (h Z _ (PStep.refl zin))
theorem Cmp.le_int {a b : Int} : Cmp G n .LtE (.int a) (.int b) (decide (a ≤ b)) := by
  rintro A Z s v w Q E r z0 zin ⟨t, rfl⟩ ⟨u, rfl⟩ h
  exact PyProof.Rows.le_int (h Z _ (PStep.refl zin))
theorem Cmp.ge_int {a b : Int} : Cmp G n .GtE (.int a) (.int b) (decide (b ≤ a)) := by
  rintro A Z s v w Q E r z0 zin ⟨t, rfl⟩ ⟨u, rfl⟩ h
  exact PyProof.Rows.ge_int (h Z _ (PStep.refl zin))
theorem Cmp.gt_int {a b : Int} : Cmp G n .Gt (.int a) (.int b) (decide (b < a)) := by
  rintro A Z s v w Q E r z0 zin ⟨t, rfl⟩ ⟨u, rfl⟩ h
  exact PyProof.Rows.gt_int (h Z _ (PStep.refl zin))
theorem Cmp.eq_str {a b : Str} : Cmp G n .Eq (.str a) (.str b) (a == b) := by
  rintro A Z s v w Q E r z0 zin ⟨t, rfl⟩ ⟨u, rfl⟩ h
  exact PyProof.Rows.eq_str (h Z _ (PStep.refl zin))
theorem Cmp.ne_str {a b : Str} : Cmp G n .NotEq (.str a) (.str b) (a != b) := by
  rintro A Z s v w Q E r z0 zin ⟨t, rfl⟩ ⟨u, rfl⟩ h
  exact PyProof.Rows.ne_str (h Z _ (PStep.refl zin))
theorem Cmp.eq_bool {a b : Bool} : Cmp G n .Eq (.bool a) (.bool b) (a == b) := by
  rintro A Z s v w Q E r z0 zin rfl rfl h
  exact PyProof.Rows.eq_bool (h Z _ (PStep.refl zin))
theorem Cmp.ne_bool {a b : Bool} : Cmp G n .NotEq (.bool a) (.bool b) (a != b) := by
  rintro A Z s v w Q E r z0 zin rfl rfl h
  exact PyProof.Rows.ne_bool (h Z _ (PStep.refl zin))
theorem Truth.bool {b : Bool} : Truth G n (.bool b) b := by
  rintro A Z s v Q E r z0 zin rfl h
  exact wpAny_truthy_bool (h Z _ (PStep.refl zin))
theorem Truth.int {a : Int} : Truth G n (.int a) (a != 0) := by
  rintro A Z s v Q E r z0 zin ⟨t, rfl⟩ h
  exact PyProof.Rows.truthy_int (h Z _ (PStep.refl zin))
theorem Truth.str {x : Str} (hx : x.length < 2 ^ 62) : Truth G n (.str x) ((x.length : Int) != 0) := by
  rintro A Z s v Q E r z0 zin ⟨t, rfl⟩ h
  exact P.truthy_str (by omega) (h Z _ (PStep.tok zin _))
theorem SeqZ.pl {Z : Zm} {h : Heap} {a : Addr} {vs : List Value} (x : SeqZ Z "list" a vs) (zin : Zin Z h) : PL h a vs.toArray := let ⟨o, e, r⟩ := x; ⟨o, zin _ _ e, r⟩
theorem SeqZ.list {Z : Zm} {h : Heap} {a : Addr} {vs : List Value} (x : SeqZ Z "list" a vs) (zin : Zin Z h) : h.IsList a vs.toArray := (x.pl zin).list
theorem SeqZ.tuple {Z : Zm} {h : Heap} {a : Addr} {vs : List Value} (x : SeqZ Z "tuple" a vs) (zin : Zin Z h) : h.IsTuple a vs.toArray := let ⟨o, e, p, r⟩ := x; ⟨o, zin _ _ e, p.c, r⟩
theorem Truth.list {l : List D} (hl : l.length < 2 ^ 62) : Truth G n (.list l) (!l.isEmpty) := by
  rintro A Z s v Q E r z0 zin ⟨a, vs, rfl, hs, hh⟩ h
  have hlen := hh.length
  have e : (!vs.toArray.isEmpty) = !l.isEmpty := by
    cases l <;> cases vs <;> simp_all
  exact wpAny_truthy_list (hs.list zin) (by simp; omega) (e ▸ h Z _ (PStep.tok zin _))
theorem Ev.int_ {i : Int} {k : Nat} {pos : Pos} : Ev G n sc ρ (.Constant (.int i) k pos) (.int i) := fun A env g Z s Q E r he S h => wpAny_Constant_int (h _ Z _ (PStep.tok S.zin _) ⟨_, rfl⟩)
theorem Ev.str_ {x : Str} {k : Nat} {pos : Pos} : Ev G n sc ρ (.Constant (.str x) k pos) (.str x) := fun A env g Z s Q E r he S h => wpAny_Constant_str (h _ Z _ (PStep.tok S.zin _) ⟨_, rfl⟩)
theorem Ev.bool_ {b : Bool} {k : Nat} {pos : Pos} : Ev G n sc ρ (.Constant (.bool b) k pos) (.bool b) := fun A env g Z s Q E r he S h => wpAny_Constant_bool (h _ Z _ (PStep.refl S.zin) rfl)
theorem Ev.none_ {k : Nat} {pos : Pos} : Ev G n sc ρ (.Constant .none k pos) .none := fun A env g Z s Q E r he S h => wpAny_Constant_none (h _ Z _ (PStep.refl S.zin) rfl)
def okName (x : Str) : Bool := !(x == ("__debug__" : Str)) && !(x == ("__classdict__" : Str))
theorem Ev.name {x : Str} {d : D} {pos : Pos} (e : ρ.lookup x = some (.fz d)) (ok : okName x = true) : Ev G n sc ρ (.Name x pos) d := by
  intro A env g Z s Q E r he S h
  obtain ⟨h1, h2⟩ := Bool.and_eq_true_iff.mp ok
  refine wpAny_Name (S.load e (fun v o _ hs => h v Z s (PStep.refl S.zin) hs.2) (by simpa using h2)) (by simpa using h1)
theorem Ev.bin {l r : Expr} {op : Operator} {pos : Pos} {a b d : D} (x : Ev G n sc ρ l a) (y : Ev G n sc ρ r b) (o : Op2 G n op a b d) : Ev G n sc ρ (.BinOp l op r pos) d := by
  intro A env g Z s Q E rm he S h
  refine wpAny_BinOp (x A env g Z s _ E rm he S fun v Z1 s1 st1 hv => y A env g Z1 s1 _ E rm he (S.step st1) fun w Z2 s2 st2 hw => ?_)
  exact o A Z2 s2 v w Q E rm ((S.step st1).step st2).z0 st2.zin (Holds.mono st2.z hv) hw fun q Z3 s3 st3 hq => h q Z3 s3 ((st1.trans st2).trans st3) hq
theorem Ev.cmp {l r : Expr} {op : CmpOp} {pos : Pos} {a b : D} {q : Bool} (x : Ev G n sc ρ l a) (y : Ev G n sc ρ r b) (o : Cmp G n op a b q) (hm : behindInMarks op r = false) : Ev G n sc ρ (.Compare l [op] [r] pos) (.bool q) := by
  intro A env g Z s Q E rm he S h
  refine wpAny_Compare1 (x A env g Z s _ E rm he S fun v Z1 s1 st1 hv => y A env g Z1 s1 _ E rm he (S.step st1) fun w Z2 s2 st2 hw => ?_) hm
  exact o A Z2 s2 v w Q E rm ((S.step st1).step st2).z0 st2.zin (Holds.mono st2.z hv) hw fun Z3 s3 st3 => h _ Z3 s3 ((st1.trans st2).trans st3) rfl
theorem Tr.cmp {l r : Expr} {op : CmpOp} {pos : Pos} {a b : D} {q : Bool} (x : Ev G n sc ρ l a) (y : Ev G n sc ρ r b) (o : Cmp G n op a b q) (hm : behindInMarks op r = false) : Tr G n sc ρ (.Compare l [op] [r] pos) q := by
  intro A env g Z s Q E rm he S h
  refine wpAny_isTrue_Compare1 (x A env g Z s _ E rm he S fun v Z1 s1 st1 hv => y A env g Z1 s1 _ E rm he (S.step st1) fun w Z2 s2 st2 hw => ?_) hm
  exact o A Z2 s2 v w _ E rm ((S.step st1).step st2).z0 st2.zin (Holds.mono st2.z hv) hw fun Z3 s3 st3 => wpAny_truthy_bool (h Z3 s3 ((st1.trans st2).trans st3))
theorem Tr.val {e : Expr} {d : D} {b : Bool} (x : Ev G n sc ρ e d) (t : Truth G n d b)
    (he : ∀ env whole, isTrue e env whole = (do let v ← whole; standAt e.pos; holding [v] (truthy v))) : Tr G n sc ρ e b := by
  intro A env g Z s Q E rm hs S h
  refine wpAny_isTrue_value (x A env g Z s _ E rm hs S fun v Z1 s1 st1 hv => ?_) (he _ _)
  exact t A Z1 s1 v Q E rm (S.step st1).z0 st1.zin hv fun Z2 s2 st2 => h Z2 s2 (st1.trans st2)
theorem Tr.and_nil {env : Env} {A : Around} {E : Value → Shared → Prop} {s : Shared} {Q : Bool → Shared → Prop} (h : Q true s) : wpAny (model G.prog G.w) A (allTrue .And [] env) Q E s := wpAny_pure h
theorem Tr.and2 {x y : Expr} {pos : Pos} {b c : Bool} (p : Tr G n sc ρ x b) (q : b = true → Tr G n sc ρ y c) (hc : b = false → c = false) : Tr G n sc ρ (.BoolOp .And [x, y] pos) c := by
  intro A env g Z s Q E rm he S h
  refine wpAny_isTrue_BoolOp (wpAny_allTrue_And_cons (p A env g Z s _ E rm he S fun Z1 s1 st1 => ?_))
  cases b with
  | false => rw [hc rfl] at h; exact h Z1 s1 st1
  | true =>
    refine wpAny_allTrue_And_cons (q rfl A env g Z1 s1 _ E rm he (S.step st1) fun Z2 s2 st2 => ?_)
    cases c with
    | false => exact h Z2 s2 (st1.trans st2)
    | true => exact Tr.and_nil (h Z2 s2 (st1.trans st2))
theorem Tr.or2 {x y : Expr} {pos : Pos} {b c : Bool} (p : Tr G n sc ρ x b) (q : b = false → Tr G n sc ρ y c) (hc : b = true → c = true) : Tr G n sc ρ (.BoolOp .Or [x, y] pos) c := by
  intro A env g Z s Q E rm he S h
  refine wpAny_isTrue_BoolOp (wpAny_allTrue_Or_cons (p A env g Z s _ E rm he S fun Z1 s1 st1 => ?_))
  cases b with
  | true => rw [hc rfl] at h; exact h Z1 s1 st1
  | false =>
    refine wpAny_allTrue_Or_cons (q rfl A env g Z1 s1 _ E rm he (S.step st1) fun Z2 s2 st2 => ?_)
    cases c with
    | true => exact h Z2 s2 (st1.trans st2)
    | false => exact wpAny_pure (h Z2 s2 (st1.trans st2))
/-- «x and y» as a value, both bools -/
theorem Ev.and2 {x y : Expr} {pos : Pos} {b c : Bool} (p : Ev G n sc ρ x (.bool b)) (q : b = true → Ev G n sc ρ y (.bool c)) (hc : b = false → c = false) : Ev G n sc ρ (.BoolOp .And [x, y] pos) (.bool c) := by
  intro A env g Z s Q E rm he S h
  refine wpAny_And2 (p A env g Z s _ E rm he S fun v Z1 s1 st1 hv => ?_)
  cases hv
  refine wpAny_truthy_bool ?_
  cases b with
  | false => rw [hc rfl] at h; exact h _ Z1 s1 st1 rfl
  | true => exact q rfl A env g Z1 s1 _ E rm he (S.step st1) fun v Z2 s2 st2 hv => h v Z2 s2 (st1.trans st2) hv
theorem Ev.ifexp {c t f : Expr} {pos : Pos} {b : Bool} {d : D} (p : Tr G n sc ρ c b) (x : b = true → Ev G n sc ρ t d) (y : b = false → Ev G n sc ρ f d) : Ev G n sc ρ (.IfExp c t f pos) d := by
  intro A env g Z s Q E rm he S h
  refine wpAny_IfExp (p A env g Z s _ E rm he S fun Z1 s1 st1 => ?_)
  cases b with
  | true => exact x rfl A env g Z1 s1 _ E rm he (S.step st1) fun v Z2 s2 st2 hv => h v Z2 s2 (st1.trans st2) hv
  | false => exact y rfl A env g Z1 s1 _ E rm he (S.step st1) fun v Z2 s2 st2 hv => h v Z2 s2 (st1.trans st2) hv
theorem Evs.nil : Evs G n sc ρ [] [] := fun pos A env g Z s Q E rm he S h => spliced_none (h [] Z s (PStep.refl S.zin) rfl)
theorem Evs.cons {e : Expr} {es : List Expr} {d : D} {ds : List D} (x : Ev G n sc ρ e d) (y : Evs G n sc ρ es ds)
    (hs : ∀ env, starEach (e :: es) env = (false, eval e env) :: starEach es env) : Evs G n sc ρ (e :: es) (d :: ds) := by
  intro pos A env g Z s Q E rm he S h
  rw [hs]
  refine spliced_cons (x A env g Z s _ E rm he S fun v Z1 s1 st1 hv => ?_)
  refine y pos A env g Z1 s1 _ E rm he (S.step st1) fun vs Z2 s2 st2 hvs => ?_
  exact h _ Z2 s2 (st1.trans st2) ⟨v, vs, rfl, Holds.mono st2.z hv, hvs⟩
theorem EvL.disp {es : List Expr} {ds : List D} {pos : Pos} (x : Evs G n sc ρ es ds) (hl : ds.length ≤ 1000) : EvL G n sc ρ (.List es pos) ds := by
  intro A env g Z s Q E rm he S h
  refine List_ (x pos A env g Z s _ E rm he S fun vs Z1 s1 st1 hv => ?_)
  have hlen := hv.length
  refine wpAny_newList ?_ (by rw [hlen]; exact Nat.le_trans hl (by decide))
  refine h _ vs Z1 _ (st1.trans (PStep.same (h' := s1.heap.push _) (tk := s1.toks) st1.zin fun _ _ e => Heap.get?_push_of_some _ e)) ?_ (st1.zin.none fresh_none) ⟨_, Heap.get?_push_size _ rfl, ⟨rfl, rfl, rfl⟩, _, rfl⟩ hv
  cases q : s.heap.get? s1.heap.objs.size with
  | none => rfl
  | some o => exact absurd (Heap.lt_size (st1.keep _ _ q)) (Nat.lt_irrefl _)
theorem Ev.tuple {es : List Expr} {ds : List D} {k : Nat} {pos : Pos} (x : Evs G n sc ρ es ds) (hl : ds.length ≤ 1000) : Ev G n sc ρ (.Tuple es k pos) (.tup ds) := by
  intro A env g Z s Q E rm he S h
  refine Tuple_ (x pos A env g Z s _ E rm he S fun vs Z1 s1 st1 hv => ?_)
  have hlen := hv.length
  refine wpAny_newTuple ?_ (by rw [hlen]; exact Nat.le_trans hl (by decide))
  exact h _ _ _ (st1.trans (PStep.push st1.zin _ s1.toks)) ⟨_, vs, rfl, ⟨_, Zm.add_self .., ⟨rfl, rfl, rfl⟩, _, rfl⟩, HoldsL.mono (Zm.le_add (st1.zin.none fresh_none)) hv⟩
end
end M3
end
-- part C7
section
namespace M3
open PySem PySem.Calls PySem.Spec PyProof.Rows PySem.W
/-- who keeps the callee -/
def Kpr (G : Gc) (f : Value) : Prop := ∀ h, G.Bs h → ∃ k, (k = Keeper.frame ∨ k = Keeper.machine ∨ k = Keeper.boundFrame) ∧ Looks (model G.prog G.w) h (keeperOf f) k
theorem Kpr.of_in {G : Gc} {f : Value} (h : keepIn G.K f = true) : Kpr G f := fun _ b => keeps_K h _ b.k
theorem Kpr.builtin {G : Gc} {id : String} : Kpr G (.builtin id) := fun _ _ => ⟨.machine, .inr (.inl rfl), Looks.of_pure rfl⟩
theorem Kpr.type {G : Gc} {id : String} : Kpr G (.type id) := fun _ _ => ⟨.machine, .inr (.inl rfl), Looks.of_pure rfl⟩
section
variable (G : Gc)
/-- a call of a value: data in, data out -/
def Cv (n : Nat) (f : Value) (ds : List D) (d : D) : Prop :=
  ∀ (A : Around) (Z : Zm) (s : Shared) (vs : List Value) (Q : Value → Shared → Prop) (E : Value → Shared → Prop), Room n A → G.Z0 Z → Zin Z s.heap → HoldsL Z ds vs →
    (∀ v Z' s', PStep Z s Z' s' → Holds Z' d v → Q v s') → wpAny (model G.prog G.w) A (call f vs) Q E s
def CvL (n : Nat) (f : Value) (ds l : List D) : Prop :=
  ∀ (A : Around) (Z : Zm) (s : Shared) (vs : List Value) (Q : Value → Shared → Prop) (E : Value → Shared → Prop), Room n A → G.Z0 Z → Zin Z s.heap → HoldsL Z ds vs →
    (∀ a vs' Z' s', PStep Z s Z' s' → s.heap.get? a = none → Z' a = none → PL s'.heap a vs'.toArray → HoldsL Z' l vs' → Q (.ref a) s') → wpAny (model G.prog G.w) A (call f vs) Q E s
/-- the method `name` of data: what the look gives -/
def Mt (n : Nat) (name : Str) (d : D) (P : Value → List D → Prop) : Prop :=
  ∀ (A : Around) (Z : Zm) (s : Shared) (v : Value) (pl : Sem Bool) (Q : Value × List Value → Shared → Prop) (E : Value → Shared → Prop), Room n A → G.Z0 Z → Zin Z s.heap → Holds Z d v →
    (∀ f fs ds, Kpr G f → P f ds → HoldsL Z ds fs → Q (f, fs) s) → wpAny (model G.prog G.w) A (getMethod v name pl) Q E s
end
section
variable {G : Gc} {n : Nat} {sc : Scope} {ρ : Rho}
theorem Fn.cv {f ds d} (h : Fn G n f ds d) : Cv G n (.ref f) ds d := h
theorem FnL.cv {f ds l} (h : FnL G n f ds l) : CvL G n (.ref f) ds l := h
theorem CvL.cv {f ds l} (h : CvL G n f ds l) : Cv G n f ds (.list l) := by
  intro A Z s vs Q E r z0 zin hh hq
  refine h A Z s vs Q E r z0 zin hh fun a vs' Z' s' st hn hz hl hh => ?_
  obtain ⟨o, ho, hc, k, hd⟩ := id hl
  exact hq _ _ _ (st.freeze hn hz ho) ⟨a, vs', rfl, ⟨o, Zm.add_self .., hc, k, hd⟩, HoldsL.mono (Zm.le_add hz) hh⟩
theorem Cv.le {m f ds d} (h : Cv G m f ds d) (hm : m ≤ n) : Cv G n f ds d := fun A Z s vs Q E r => h A Z s vs Q E (r.le hm)
theorem CvL.le {m f ds d} (h : CvL G m f ds d) (hm : m ≤ n) : CvL G n f ds d := fun A Z s vs Q E r => h A Z s vs Q E (r.le hm)
def noStar (es : List Expr) : Bool := es.all fun e => match e with | .Starred .. => false | _ => true
theorem star_plain (es : List Expr) (h : noStar es = true) (env : Env) : (starEach es env).any (·.1) = false := by
  induction es with
  | nil => rfl
  | cons e r ih =>
    simp only [noStar, List.all_cons, Bool.and_eq_true] at h
    cases e <;> first | (simp at h; done) | (simp only [starEach, List.any_cons, Bool.false_or]; exact ih h.2)
theorem back_plain {pos : Pos} {l : List (Bool × Sem Value)} (h : l.any (·.1) = false) : (backTo pos l).any (·.1) = false := by
  unfold backTo; simpa [List.any_map] using h
theorem evalArgs_any {M : Model} {A : Around} {E : Value → Shared → Prop} {s : Shared} {f : Value} {l : List (Bool × Sem Value)} {Q : Args → Shared → Prop} (hl : l.any (·.1) = false)
    (h : wpAny M A (spliced l) (fun vs s' => Q ⟨vs, []⟩ s') E s) : wpAny M A (evalArgs f true l []) Q E s := by
  match l, hl with
  | [], _ =>
    unfold evalArgs
    show wpAny M A (spliced [] >>= _) Q E s
    refine wpAny_bind (wpAny_mono h (fun vs s' h' => ?_) fun _ _ x => x)
    refine wpAny_holding ?_
    exact wpAny_bind (wpAny_pure (wpAny_bind (wpAny_pure (wpAny_pure h'))))
  | (false, x) :: r, _ => exact evalArgs_plain h
  | (true, x) :: r, hl => simp at hl
/-- the call behind the look: the arguments, then the call -/
theorem callWith_pos {A : Around} {E : Value → Shared → Prop} {env : Env} {g Z} {s : Shared} {pos : Pos} {f : Value} {first : List Value} {es : List Expr} {ds : List D} {Q : Value → Shared → Prop} (S : Sees G env g Z ρ s.heap)
    (rm : Room n A) (he : env.scope = sc) (hk : Kpr G f) (hs : noStar es = true) (x : Evs G n sc ρ es ds)
    (h : ∀ vs Z' s', PStep Z s Z' s' → HoldsL Z' ds vs → wpAny (model G.prog G.w) A (call f (first ++ vs)) Q E s') :
    wpAny (model G.prog G.w) A (callWith pos f first (backTo pos (starEach es env)) []) Q E s := by
  have hp := back_plain (pos := pos) (star_plain es hs env)
  refine callWith_of (P := fun h => G.Bs h) (by rw [hp]; rfl) hk (evalArgs_any hp ?_)
  exact x pos A env g Z s _ E rm he S fun vs Z' s' st hv => ⟨(S.step st).z0.bs st.zin, h vs Z' s' st hv⟩
/-- what stands in a call's head -/
def Callee (G : Gc) (sc : Scope) (x : Str) (v : Value) : Prop :=
  okName x = true ∧ sc.names.lookup x = some .globalImplicit ∧ (nsIn G.K mainGlobals x = some (some v) ∨ (nsIn G.K mainGlobals x = some none ∧ bootBuiltins x = some v ∧ x ≠ "__name__"))
theorem Callee.eval {A : Around} {E : Value → Shared → Prop} {env : Env} {g Z} {s : Shared} {x : Str} {v : Value} {pos : Pos} {Q : Value → Shared → Prop} (c : Callee G sc x v) (S : Sees G env g Z ρ s.heap) (he : env.scope = sc) (h : Q v s) :
    wpAny (model G.prog G.w) A (eval (.Name x pos) env) Q E s := by
  obtain ⟨ok, hk, c⟩ := c
  obtain ⟨h1, h2⟩ := Bool.and_eq_true_iff.mp ok
  have hk' : env.kindOf x = some .globalImplicit := by unfold Env.kindOf; rw [he]; exact hk
  refine wpAny_Name ?_ (by simpa using h1)
  rcases c with c | ⟨c, b, nn⟩
  · exact S.global hk' c h
  · exact S.builtin hk' c b nn h
theorem Ev.call {x : Str} {np pos : Pos} {es : List Expr} {v : Value} {ds : List D} {d : D} (c : Callee G sc x v) (hk : Kpr G v) (a : Evs G n sc ρ es ds) (hs : noStar es = true) (f : Cv G n v ds d) : Ev G n sc ρ (.Call (.Name x np) es [] pos) d := by
  intro A env g Z s Q E rm he S h
  refine wpAny_Call_NameR (c.eval S he ?_)
  refine callWith_pos S rm he hk hs a fun vs Z1 s1 st1 hv => ?_
  exact f A Z1 s1 vs Q E rm (S.step st1).z0 st1.zin hv fun v Z2 s2 st2 h2 => h v Z2 s2 (st1.trans st2) h2
theorem none_of_keep {s s1 : Shared} {a : Addr} (k : ∀ b o, s.heap.get? b = some o → s1.heap.get? b = some o) (h : s1.heap.get? a = none) : s.heap.get? a = none := by
  cases q : s.heap.get? a with
  | none => rfl
  | some o => rw [k _ _ q] at h; cases h
theorem EvL.call {x : Str} {np pos : Pos} {es : List Expr} {v : Value} {ds l : List D} (c : Callee G sc x v) (hk : Kpr G v) (a : Evs G n sc ρ es ds) (hs : noStar es = true) (f : CvL G n v ds l) : EvL G n sc ρ (.Call (.Name x np) es [] pos) l := by
  intro A env g Z s Q E rm he S h
  refine wpAny_Call_NameR (c.eval S he ?_)
  refine callWith_pos S rm he hk hs a fun vs Z1 s1 st1 hv => ?_
  exact f A Z1 s1 vs Q E rm (S.step st1).z0 st1.zin hv fun a vs' Z2 s2 st2 hn hz hl hh => h a vs' Z2 s2 (st1.trans st2) (none_of_keep st1.keep hn) hz hl hh
/-- the shape of a method's call -/
def MethShape (o : Expr) (name : Str) (apos : Pos) (es : List Expr) (pos : Pos) : Prop := ∀ env, ∃ pl, eval (.Call (.Attribute o name apos) es [] pos) env = (do
      let ov ← eval o env
      standAt apos.atName
      let (f, first) ← holding [ov] (getMethod ov name pl)
      callWith pos f first (backTo pos (starEach es env)) (backToKw pos (keywordEach [] env)))
theorem Ev.meth {o : Expr} {name : Str} {apos pos : Pos} {es : List Expr} {b d : D} {ds : List D} (sh : MethShape o name apos es pos) (x : Ev G n sc ρ o b) (m : Mt G n name b (fun f fs => Cv G n f (fs ++ ds) d)) (a : Evs G n sc ρ es ds) (hs : noStar es = true) :
    Ev G n sc ρ (.Call (.Attribute o name apos) es [] pos) d := by
  intro A env g Z s Q E rm he S h
  obtain ⟨pl, e⟩ := sh env
  refine methodCall_KW (pl := pl) (x A env g Z s _ E rm he S fun v Z1 s1 st1 hv => m A Z1 s1 v pl _ E rm (S.step st1).z0 st1.zin hv fun f fs fds hk hc hf => ?_) e
  refine callWith_pos (S.step st1) rm he hk hs a fun vs Z2 s2 st2 hvs => ?_
  exact hc A Z2 s2 (fs ++ vs) Q E rm ((S.step st1).step st2).z0 st2.zin ((HoldsL.mono st2.z hf).append hvs) fun v Z3 s3 st3 h3 => h v Z3 s3 ((st1.trans st2).trans st3) h3
theorem EvL.meth {o : Expr} {name : Str} {apos pos : Pos} {es : List Expr} {b : D} {ds l : List D} (sh : MethShape o name apos es pos) (x : Ev G n sc ρ o b) (m : Mt G n name b (fun f fs => CvL G n f (fs ++ ds) l)) (a : Evs G n sc ρ es ds) (hs : noStar es = true) :
    EvL G n sc ρ (.Call (.Attribute o name apos) es [] pos) l := by
  intro A env g Z s Q E rm he S h
  obtain ⟨pl, e⟩ := sh env
  refine methodCall_KW (pl := pl) (x A env g Z s _ E rm he S fun v Z1 s1 st1 hv => m A Z1 s1 v pl _ E rm (S.step st1).z0 st1.zin hv fun f fs fds hk hc hf => ?_) e
  refine callWith_pos (S.step st1) rm he hk hs a fun vs Z2 s2 st2 hvs => ?_
  exact hc A Z2 s2 (fs ++ vs) Q E rm ((S.step st1).step st2).z0 st2.zin ((HoldsL.mono st2.z hf).append hvs) fun a vs' Z3 s3 st3 hn hz hl hh => h a vs' Z3 s3 ((st1.trans st2).trans st3) (none_of_keep (st1.trans st2).keep hn) hz hl hh
/-- methods of the built-in types -/
theorem Mt.slot {d : D} {T : String} {name : Str} {id : String} {P : Value → List D → Prop} (hT : ∀ Z (s : Shared) v, Zin Z s.heap → Holds Z d v → s.TypeIs v T) (hd : ∀ Z (s : Shared) v, Zin Z s.heap → Holds Z d v → ∀ a, v = .ref a → ∃ o, s.heap.get? a = some o ∧ o.dict = none)
    (pa : PlainAttrs T) (slot : PySem.Slot T name id) (hty : typeOf (.builtin id) = pure (.type "method_descriptor")) (h : P (.builtin id) [d]) : Mt G n name d P := by
  intro A Z s v pl Q E r z0 zin hv hq
  exact getMethod_builtin (hT Z s v zin hv) pa slot hty (hd Z s v zin hv) (hq _ _ _ Kpr.builtin h (HoldsL.one hv))
theorem holds_str {Z : Zm} {s : Shared} {x : Str} {v : Value} (h : Holds Z (.str x) v) : s.TypeIs v "str" := by
  obtain ⟨t, rfl⟩ := h
  exact typeIs_str s x t
theorem Mt.str {name : Str} {id : String} {x : Str} {P : Value → List D → Prop} (pa : PlainAttrs "str") (slot : PySem.Slot "str" name id) (hty : typeOf (.builtin id) = pure (.type "method_descriptor")) (h : P (.builtin id) [.str x]) : Mt G n name (.str x) P :=
  Mt.slot (fun _ _ _ _ => holds_str) (fun _ _ _ _ ⟨t, e⟩ a e' => by rw [e] at e'; cases e') pa slot hty h
end
end M3
end
-- part C8
section
namespace M3
open PySem PySem.Calls PySem.Spec PyProof.Rows PySem.W
/-- one step of an iterator: all but its own objects stay -/
structure UStep (U : Addr → Prop) (Z : Zm) (s : Shared) (Z' : Zm) (s' : Shared) : Prop where
  st : ∃ h' tk, s' = { s with heap := h', toks := tk }
  keep : ∀ b o, ¬ U b → s.heap.get? b = some o → s'.heap.get? b = some o
  z : Zle Z Z'
  zin : Zin Z' s'.heap
  zn : ∀ a o, ¬ U a → s.heap.get? a = some o → Z a = none → Z' a = none
/-- U: the iterator's own objects; B: objects that it reads -/
structure Compat (U B : Addr → Prop) (h : Heap) (Z : Zm) (s : Shared) (Z₁ : Zm) : Prop where
  u : ∀ b o, U b → h.get? b = some o → s.heap.get? b = some o
  b : ∀ b o, B b → h.get? b = some o → s.heap.get? b = some o
  z : Zle Z Z₁
  zin : Zin Z₁ s.heap
  uz : ∀ b, U b → Z₁ b = none
/-- neither a namespace, nor a cell, nor a list -/
structure Odd (o : Obj) : Prop where
  d : ∀ es ep, o.data ≠ .dict es ep
  c : ∀ v, o.data ≠ .cell v
  l : ∀ xs n, o.data = .seq xs n → o.cls ≠ .type "list"
theorem Odd.fields {o : Obj} {vs : Array Value} (h : o.data = .fields vs) : Odd o := by
  constructor
  · intro _ _ e; rw [h] at e; cases e
  · intro _ e; rw [h] at e; cases e
  · intro _ _ e; rw [h] at e; cases e
theorem Odd.tuple {o : Obj} (h : o.cls = .type "tuple") (hd : ∃ xs n, o.data = .seq xs n) : Odd o := by
  obtain ⟨xs, n, hd⟩ := hd
  constructor
  · intro _ _ e; rw [hd] at e; cases e
  · intro _ e; rw [hd] at e; cases e
  · intro _ _ _ e
    rw [h] at e; injection e with e; revert e; decide
section
variable (G : Gc)
/-- the iterator `it` will hand out the data `ds` -/
def Feeds (A : Around) (tg : Expr) (it : Value) : List D → Zm → (Addr → Prop) → (Addr → Prop) → Heap → Prop
  | [], Z, U, B, h => ∀ (s : Shared) (Z₁ : Zm) (Q : Option Value → Shared → Prop) (E : Value → Shared → Prop), Compat U B h Z s Z₁ → (∀ s', UStep U Z₁ s Z₁ s' → Q none s') → wpAny (model G.prog G.w) A (pyNext it) Q E s
  | d :: ds, Z, U, B, h => ∀ (s : Shared) (Z₁ : Zm) (Q : Value → Shared → Prop) (E : Value → Shared → Prop), Compat U B h Z s Z₁ →
    (∀ v Z₂ U₂ s', UStep U Z₁ s Z₂ s' → Holds Z₂ d v → Feeds A tg it ds Z₂ U₂ B s'.heap → (∀ b, U₂ b → U b) → (∀ b, U₂ b → ∃ o, s'.heap.get? b = some o ∧ Odd o) → (∀ b, U₂ b → Z₂ b = none) → Q v s') →
    wpAny (model G.prog G.w) A (pyNext it) (fun r s₁ => match r with | none => False | some v => wpAny (model G.prog G.w) A (letOwnedTupleGo tg it v) (fun _ s₂ => Q v s₂) E s₁) E s
/-- the iterable `e` hands out the data `ds`; what it reads is frozen (own = false) or a list of the frame's own (own = true) -/
def It (n : Nat) (sc : Scope) (ρ : Rho) (tg : Expr) (e : Expr) (ds : List D) (own : Bool) : Prop :=
  ∀ (A : Around) (env : Env) (g : Heap) (Z : Zm) (s : Shared) (Q : Value → Shared → Prop) (E : Value → Shared → Prop), Room n A → env.scope = sc → Sees G env g Z ρ s.heap →
    (∀ it Z' s' U B, PStep Z s Z' s' → Feeds G A tg it ds Z' U B s'.heap → (∀ b, U b → (s.heap.get? b = none ∧ Z' b = none) ∧ ∃ o, s'.heap.get? b = some o ∧ Odd o) → (own = false → ∀ b, ¬ B b) → (∀ b, B b → ∃ o, s.heap.get? b = some o) →
      (∀ s₂ Z₂ Q' E', Compat U B s'.heap Z' s₂ Z₂ → Q' it s₂ → wpAny (model G.prog G.w) A (pyIter it) Q' E' s₂) → Q it s') →
    wpAny (model G.prog G.w) A (eval e env) (fun x s₁ => wpAny (model G.prog G.w) A (pyIter x) Q E s₁) E s
end
def isNameTg : Expr → Bool
  | .Name .. => true
  | .Tuple .. => true
  | _ => false
theorem goList {prog : Program} {w : World} {A : Around} {E : Value → Shared → Prop} {s : Shared} {tg : Expr} {I l : Addr} {i : Nat} {v : Value} {Q : Unit → Shared → Prop} (h : isNameTg tg = true) (hit : s.heap.IsListIter I l i) (hq : Q () s) :
    wpAny (model prog w) A (letOwnedTupleGo tg (.ref I) v) Q E s := by
  cases tg <;> first | (cases h; done) | exact wpAny_pure hq | skip
  cases v <;> first | exact wpAny_letOwnedTupleGo_listiter hit hq | exact wpAny_pure hq
section
variable {G : Gc} {n : Nat} {sc : Scope} {ρ : Rho} {A : Around}
theorem IsListIter.at' {h h' : Heap} {I l : Addr} {i : Nat} (x : h.IsListIter I l i) (e : ∀ o, h.get? I = some o → h'.get? I = some o) : h'.IsListIter I l i := let ⟨o, ho, r⟩ := x; ⟨o, e o ho, r⟩
theorem IsListIter.get {h : Heap} {I l : Addr} {i : Nat} (x : h.IsListIter I l i) : ∃ o, h.get? I = some o ∧ Odd o := let ⟨o, ho, _, hd⟩ := x; ⟨o, ho, .fields hd⟩
/-- a list's iterator: the list is frozen, or read as it stands -/
theorem Feeds.list (hh : A.handled = none) {tg : Expr} (ht : isNameTg tg = true) {I l : Addr} {vs : List Value} : ∀ (ds : List D) (i : Nat) (Z : Zm) (B : Addr → Prop) (h : Heap), (B l ∨ SeqZ Z "list" l vs) → l ≠ I → h.IsListIter I l i → h.IsList l vs.toArray → HoldsL Z ds (vs.drop i) →
    Feeds G A tg (.ref I) ds Z (fun b => b = I) B h
  | [], i, Z, B, h, hb, hne, hit, hl, hd => by
    intro s Z₁ Q E C hq
    have hl' : s.heap.IsList l vs.toArray := by
      rcases hb with b | q
      · obtain ⟨o, e, r⟩ := hl; exact ⟨o, C.b _ _ b e, r⟩
      · exact (q.mono C.z).list C.zin
    have hi : vs.toArray[i]? = none := by
      have : vs.drop i = [] := hd
      have := List.drop_eq_nil_iff.mp this
      simpa using this
    refine wpAny_pyNext_list_end hh (IsListIter.at' hit fun o e => C.u _ _ rfl e) hl' hi fun h' hx => ?_
    exact hq _ ⟨⟨h', s.toks, rfl⟩, fun b o nb e => hx b o nb e, Zle.refl _, fun a o e => hx a o (fun q => by subst q; rw [C.uz _ rfl] at e; cases e) (C.zin _ _ e), fun _ _ _ _ e => e⟩
  | d :: ds, i, Z, B, h, hb, hne, hit, hl, hd => by
    intro s Z₁ Q E C hq
    have hl' : s.heap.IsList l vs.toArray := by
      rcases hb with b | q
      · obtain ⟨o, e, r⟩ := hl; exact ⟨o, C.b _ _ b e, r⟩
      · exact (q.mono C.z).list C.zin
    obtain ⟨v, ws, e, hv, hr⟩ := hd
    have hi : vs.toArray[i]? = some v := by
      have : (vs.drop i)[0]? = some v := by rw [e]; rfl
      simpa using this
    have hws : vs.drop (i + 1) = ws := by rw [← List.drop_drop, e]; rfl
    refine wpAny_pyNext_list_item (IsListIter.at' hit fun o e => C.u _ _ rfl e) hl' hi fun h' hit' hs => ?_
    dsimp only
    refine goList ht hit' ?_
    have up : ∀ a o, Z₁ a = some o → h'.get? a = some o := fun a o e => (hs.2 a fun q => by subst q; rw [C.uz _ rfl] at e; cases e).trans (C.zin _ _ e)
    refine hq v Z₁ (fun b => b = I) { s with heap := h' } ⟨⟨h', s.toks, rfl⟩, fun b o nb e => hs.extBut b o nb e, Zle.refl _, up, fun _ _ _ _ e => e⟩ (Holds.mono C.z hv) ?_ (fun b e => e) (fun b e => by subst e; exact IsListIter.get hit') fun b e => C.uz b e
    refine Feeds.list hh ht ds (i + 1) Z₁ B h' (hb.imp id fun q => q.mono C.z) hne hit' ?_ (by rw [hws]; exact HoldsL.mono C.z hr)
    obtain ⟨o, e, r⟩ := hl'
    exact ⟨o, hs.extBut _ _ hne e, r⟩
theorem It.list {tg e : Expr} (ht : isNameTg tg = true) {ds : List D} (x : Ev G n sc ρ e (.list ds)) : It G n sc ρ tg e ds false := by
  intro A env g Z s Q E rm he S hq
  refine x A env g Z s _ E rm he S fun v Z1 s1 st1 hv => ?_
  obtain ⟨a, vs, rfl, hs, hh⟩ := hv
  have hl := hs.list st1.zin
  refine wpAny_pyIter_list hl ?_
  have st2 := PStep.same (h' := s1.heap.push { cls := .type "list_iterator", data := .fields #[.ref a, .int 0 0] }) (tk := s1.toks) st1.zin fun _ _ e => Heap.get?_push_of_some _ e
  have hne : a ≠ s1.heap.objs.size := by obtain ⟨o, e, _⟩ := hl; exact Nat.ne_of_lt (Heap.lt_size e)
  have hit : (s1.heap.push { cls := .type "list_iterator", data := .fields #[.ref a, .int 0 0] }).IsListIter s1.heap.objs.size a 0 := ⟨_, Heap.get?_push_size _ rfl, rfl, rfl⟩
  have ns : s.heap.get? s1.heap.objs.size = none := none_of_keep st1.keep fresh_none
  refine hq _ Z1 _ (fun b => b = s1.heap.objs.size) (fun _ => False) (st1.trans st2) (Feeds.list rm.hh ht ds 0 Z1 _ _ (.inr hs) hne hit (Heap.IsList.at hl (fun o e => st2.keep _ o e)) (by simpa using hh)) (fun b e => by subst e; exact ⟨⟨ns, st1.zin.none fresh_none⟩, IsListIter.get hit⟩) (fun _ _ h => h) (fun _ h => h.elim) ?_
  intro s₂ Z₂ Q' E' C hq'
  exact wpAny_pyIter_listiter (IsListIter.at' hit fun o e => C.u _ _ rfl e) hq'
/-- a list of the frame's own, read as it stands -/
theorem It.own {tg : Expr} {x : Str} {pos : Pos} (ht : isNameTg tg = true) {ds : List D} (e : ρ.lookup x = some (.own ds)) (ok : okName x = true) : It G n sc ρ tg (.Name x pos) ds true := by
  intro A env g Z s Q E rm he S hq
  obtain ⟨h1, h2⟩ := Bool.and_eq_true_iff.mp ok
  refine wpAny_Name (S.load e (fun v o _ hs => ?_) (by simpa using h2)) (by simpa using h1)
  obtain ⟨a, vs, _, rfl, hz, hl', hh⟩ := hs
  have hl := hl'.list
  refine wpAny_pyIter_list hl ?_
  have st2 := PStep.same (h' := s.heap.push { cls := .type "list_iterator", data := .fields #[.ref a, .int 0 0] }) (tk := s.toks) S.zin fun _ _ e => Heap.get?_push_of_some _ e
  have hne : a ≠ s.heap.objs.size := by obtain ⟨o, e, _⟩ := hl; exact Nat.ne_of_lt (Heap.lt_size e)
  have hit : (s.heap.push { cls := .type "list_iterator", data := .fields #[.ref a, .int 0 0] }).IsListIter s.heap.objs.size a 0 := ⟨_, Heap.get?_push_size _ rfl, rfl, rfl⟩
  refine hq _ Z _ (fun b => b = s.heap.objs.size) (fun b => b = a) st2 (Feeds.list rm.hh ht ds 0 Z _ _ (.inl rfl) hne hit (Heap.IsList.at hl (fun o e => st2.keep _ o e)) (by simpa using hh)) (fun b e => by subst e; exact ⟨⟨fresh_none, S.zin.none fresh_none⟩, IsListIter.get hit⟩) (fun h => nomatch h) (fun b e => by subst e; obtain ⟨o, e, _⟩ := hl; exact ⟨o, e⟩) ?_
  intro s₂ Z₂ Q' E' C hq'
  exact wpAny_pyIter_listiter (IsListIter.at' hit fun o e => C.u _ _ rfl e) hq'
end
end M3
end
-- part C9
section
namespace M3
open PySem PySem.Calls PySem.Spec PyProof.Rows PySem.W
def rangeL (a c : Int) : Nat → List D
  | 0 => []
  | n + 1 => .int a :: rangeL (a + c) c n
def zipD : List D → List D → List D
  | d :: ds, e :: es => .tup [d, e] :: zipD ds es
  | _, _ => []
def enumD (i : Int) : List D → List D
  | [] => []
  | d :: ds => .tup [.int i, d] :: enumD (i + 1) ds
theorem drop_nil_get {α : Type} {vs : List α} {i : Nat} (h : vs.drop i = []) : vs.toArray[i]? = none := by
  have := List.drop_eq_nil_iff.mp h
  simpa using this
theorem drop_cons_get {α : Type} {vs ws : List α} {i : Nat} {v : α} (h : vs.drop i = v :: ws) : vs.toArray[i]? = some v ∧ vs.drop (i + 1) = ws := by
  constructor
  · have : (vs.drop i)[0]? = some v := by rw [h]; rfl
    simpa using this
  · rw [← List.drop_drop, h]; rfl
section
variable {G : Gc} {n : Nat} {sc : Scope} {ρ : Rho} {A : Around}
theorem Feeds.range (hh : A.handled = none) {tg : Expr} {x : Str} {px : Pos} (ht : tg = .Name x px) {I : Addr} {c : Int} {B : Addr → Prop} : ∀ (k : Nat) (a : Int) (Z : Zm) (h : Heap), IsRangeIter h I a k c → Feeds G A tg (.ref I) (rangeL a c k) Z (fun b => b = I) B h
  | 0, a, Z, h, hit => by
    intro s Z₁ Q E C hq
    have hit' : IsRangeIter s.heap I a (0 : Nat) c := C.u _ _ rfl hit
    refine wpAny_pyNext_range_end hh hit' (by simp) fun h' hx => ?_
    exact hq _ ⟨⟨h', s.toks, rfl⟩, fun b o nb e => hx b o nb e, Zle.refl _, fun a o e => hx a o (fun q => by subst q; rw [C.uz _ rfl] at e; cases e) (C.zin _ _ e), fun _ _ _ _ e => e⟩
  | k + 1, a, Z, h, hit => by
    intro s Z₁ Q E C hq
    have hit' : IsRangeIter s.heap I a ((k + 1 : Nat) : Int) c := C.u _ _ rfl hit
    refine wpAny_pyNext_range_item hit' (by omega) fun h' hr hs => ?_
    subst ht
    refine wpAny_pure ?_
    have up : ∀ a o, Z₁ a = some o → h'.get? a = some o := fun a o e => (hs.2 a fun q => by subst q; rw [C.uz _ rfl] at e; cases e).trans (C.zin _ _ e)
    refine hq _ Z₁ (fun b => b = I) { s with heap := h', toks := s.toks + 1 } ⟨⟨h', _, rfl⟩, fun b o nb e => hs.extBut b o nb e, Zle.refl _, up, fun _ _ _ _ e => e⟩ ⟨_, rfl⟩ ?_ (fun b e => e) (fun b e => by subst e; exact ⟨_, hr, .fields rfl⟩) fun b e => C.uz b e
    refine Feeds.range hh rfl k (a + c) Z₁ h' ?_
    rw [show ((k + 1 : Nat) : Int) - 1 = (k : Int) by omega] at hr
    exact hr
/-- a made range, looked at through its iterator -/
theorem It.ofRange {tg e : Expr} {x : Str} {px : Pos} (ht : tg = .Name x px) {a b c : Int} {k : Nat} (hk : Builtin.Range.rangeSize a b c = (k : Int)) (hs : Builtin.Range.small a b c = true)
    (mk : ∀ (A : Around) (env : Env) (g : Heap) (Z : Zm) (s : Shared) (Q : Value → Shared → Prop) (E : Value → Shared → Prop), Room n A → env.scope = sc → Sees G env g Z ρ s.heap →
      (∀ r Z' s' t u v, PStep Z s Z' s' → IsRange s'.heap r a b c t u v → Q (.ref r) s') → wpAny (model G.prog G.w) A (eval e env) Q E s) : It G n sc ρ tg e (rangeL a c k) false := by
  intro A env g Z s Q E rm he S hq
  refine mk A env g Z s _ E rm he S fun r Z1 s1 t u v st1 hr => ?_
  refine wpAny_pyIter_range hr hs ?_
  rw [hk]
  have st2 := PStep.same (h' := s1.heap.push { cls := .type "range_iterator", data := .fields #[rawInt a, rawInt (k : Int), rawInt c] }) (tk := s1.toks) st1.zin fun _ _ e => Heap.get?_push_of_some _ e
  have hit : IsRangeIter (s1.heap.push { cls := .type "range_iterator", data := .fields #[rawInt a, rawInt (k : Int), rawInt c] }) s1.heap.objs.size a k c := Heap.get?_push_size _ rfl
  refine hq _ Z1 _ (fun b => b = s1.heap.objs.size) (fun _ => False) (st1.trans st2) (Feeds.range rm.hh ht k a Z1 _ hit) (fun b e => by subst e; exact ⟨⟨none_of_keep st1.keep fresh_none, st1.zin.none fresh_none⟩, _, hit, .fields rfl⟩) (fun _ _ h => h) (fun _ h => h.elim) ?_
  intro s₂ Z₂ Q' E' C hq'
  exact wpAny_pyIter_rangeiter (C.u _ _ rfl hit) hq'
theorem callee_range (h : okName "range" = true := by decide +kernel) : True := trivial
theorem It.range1 {tg e : Expr} {x : Str} {px np pos : Pos} (ht : tg = .Name x px) (c : Callee G sc (Str.ofString "range") (.type "range")) {k : Int} (hk : k < 2 ^ 30) (hk0 : -(2 ^ 30) < k) (a : Ev G n sc ρ e (.int k)) (hs : noStar [e] = true)
    (hse : ∀ env, starEach [e] env = (false, eval e env) :: starEach [] env) :
    It G n sc ρ tg (.Call (.Name (Str.ofString "range") np) [e] [] pos) (rangeL 0 1 k.toNat) false := by
  refine It.ofRange ht (a := 0) (b := k) (c := 1) ?_ ?_ ?_
  · rw [rangeSize_one]; split <;> omega
  · exact small_one (by decide) (by decide) (by omega) (by omega)
  · intro A env g Z s Q E rm he S hq
    refine wpAny_Call_NameR (c.eval S he ?_)
    refine callWith_pos S rm he Kpr.type hs (Evs.cons a Evs.nil hse) fun vs Z1 s1 st1 hv => ?_
    obtain ⟨v, ws, rfl, ⟨t, rfl⟩, rfl⟩ := hv
    refine call_range_1 ?_
    have st2 := PStep.same (h' := s1.heap.push { cls := .type "range", data := .fields #[.int 0 s1.toks, .int k t, .int 1 (s1.toks + 1)] }) (tk := s1.toks + 1 + 1) st1.zin fun _ _ e => Heap.get?_push_of_some _ e
    exact hq _ Z1 _ _ _ _ (st1.trans st2) (IsRange.new ..)
/-- range(a, b, -1) -/
theorem rangeSize_down (a b : Int) : Builtin.Range.rangeSize a b (-1) = if b < a then a - b else 0 := by
  unfold Builtin.Range.rangeSize
  simp only [show ¬ ((-1 : Int) > 0) by decide, if_false, Int.neg_neg, Int.ediv_one, gt_iff_lt]
  split <;> omega
theorem small_down {a b : Int} (ha : -(2 ^ 62) ≤ a) (ha' : a < 2 ^ 62) (hb : -(2 ^ 62) ≤ b) (hb' : b < 2 ^ 62) : Builtin.Range.small a b (-1) = true := by
  unfold Builtin.Range.small
  rw [rangeSize_down]
  simp only [Builtin.Range.rangeFitsLong, Bool.and_eq_true, Bool.or_eq_true, decide_eq_true_eq, beq_iff_eq, show ¬ ((-1 : Int) > 0) by decide, if_false]
  split <;> omega
theorem It.range3 {tg e₁ e₂ e₃ : Expr} {x : Str} {px np pos : Pos} (ht : tg = .Name x px) (c : Callee G sc (Str.ofString "range") (.type "range")) {i j : Int} (hi : i < 2 ^ 30) (hi0 : -(2 ^ 30) < i) (hj : j < 2 ^ 30) (hj0 : -(2 ^ 30) < j)
    (a : Evs G n sc ρ [e₁, e₂, e₃] [.int i, .int j, .int (-1)]) (hs : noStar [e₁, e₂, e₃] = true) :
    It G n sc ρ tg (.Call (.Name (Str.ofString "range") np) [e₁, e₂, e₃] [] pos) (rangeL i (-1) (i - j).toNat) false := by
  refine It.ofRange ht (a := i) (b := j) (c := -1) ?_ ?_ ?_
  · rw [rangeSize_down]; split <;> omega
  · exact small_down (by omega) (by omega) (by omega) (by omega)
  · intro A env g Z s Q E rm he S hq
    refine wpAny_Call_NameR (c.eval S he ?_)
    refine callWith_pos S rm he Kpr.type hs a fun vs Z1 s1 st1 hv => ?_
    obtain ⟨v, ws, rfl, ⟨t, rfl⟩, v₂, ws₂, rfl, ⟨u, rfl⟩, v₃, ws₃, rfl, ⟨v, rfl⟩, rfl⟩ := hv
    refine call_range_3 (by decide) ?_ (.inl (PyProof.noPylong_small (by decide)))
    have st2 := PStep.same (h' := s1.heap.push { cls := .type "range", data := .fields #[.int i t, .int j u, .int (-1) v] }) (tk := s1.toks) st1.zin fun _ _ e => Heap.get?_push_of_some _ e
    exact hq _ Z1 _ _ _ _ (st1.trans st2) (IsRange.new ..)
theorem Feeds.zip (hh : A.handled = none) {elts : List Expr} {kk : Nat} {tp : Pos} {z TI TO i1 i2 l1 l2 : Addr} (D' : ZipApart z TI TO i1 i2 l1 l2) {vs ws : List Value} {B : Addr → Prop} :
    ∀ (ds es : List D) (i : Nat) (Z : Zm) (h : Heap), SeqZ Z "list" l1 vs → SeqZ Z "list" l2 ws → IsZip h z TI TO .none → IsPair h TI (.ref i1) (.ref i2) → (∃ a b, IsPair h TO a b) → h.IsListIter i1 l1 i → h.IsListIter i2 l2 i →
      HoldsL Z ds (vs.drop i) → HoldsL Z es (ws.drop i) → Feeds G A (.Tuple elts kk tp) (.ref z) (zipD ds es) Z (fun b => b = z ∨ b = TI ∨ b = TO ∨ b = i1 ∨ b = i2) B h := by
  have fin : ∀ (ds es : List D) (i : Nat) (Z : Zm) (h : Heap), SeqZ Z "list" l1 vs → SeqZ Z "list" l2 ws → IsZip h z TI TO .none → IsPair h TI (.ref i1) (.ref i2) → (∃ a b, IsPair h TO a b) → h.IsListIter i1 l1 i → h.IsListIter i2 l2 i →
      (vs.drop i = [] ∨ ws.drop i = []) → Feeds G A (.Tuple elts kk tp) (.ref z) [] Z (fun b => b = z ∨ b = TI ∨ b = TO ∨ b = i1 ∨ b = i2) B h := by
    intro ds es i Z h hs1 hs2 hz hTI ⟨a, b, hTO⟩ h1 h2 hd
    intro s Z₁ Q E C hq
    refine wpAny_pyNext_zip_end hh D' (C.u _ _ (.inl rfl) hz) (C.u _ _ (.inr (.inl rfl)) hTI) (C.u _ _ (.inr (.inr (.inl rfl))) hTO) (IsListIter.at' h1 fun o e => C.u _ _ (.inr (.inr (.inr (.inl rfl)))) e) (IsListIter.at' h2 fun o e => C.u _ _ (.inr (.inr (.inr (.inr rfl)))) e)
      ((hs1.mono C.z).list C.zin) ((hs2.mono C.z).list C.zin) (hd.imp drop_nil_get drop_nil_get) fun h' hx => ?_
    refine hq _ ⟨⟨h', s.toks, rfl⟩, fun b o nb e => hx b o (fun q => nb (.inl q)) (fun q => nb (.inr (.inr (.inl q)))) (fun q => nb (.inr (.inr (.inr (.inl q))))) (fun q => nb (.inr (.inr (.inr (.inr q))))) e, Zle.refl _, fun a o e => ?_, fun _ _ _ _ e => e⟩
    have nu : ∀ q, (q = z ∨ q = TI ∨ q = TO ∨ q = i1 ∨ q = i2) → a ≠ q := fun q hq' e' => by subst e'; rw [C.uz _ hq'] at e; cases e
    exact hx a o (nu _ (.inl rfl)) (nu _ (.inr (.inr (.inl rfl)))) (nu _ (.inr (.inr (.inr (.inl rfl))))) (nu _ (.inr (.inr (.inr (.inr rfl))))) (C.zin _ _ e)
  intro ds
  induction ds with
  | nil =>
    intro es i Z h hs1 hs2 hz hTI hTO h1 h2 hd he
    have : zipD [] es = [] := by cases es <;> rfl
    rw [this]
    exact fin [] es i Z h hs1 hs2 hz hTI hTO h1 h2 (.inl hd)
  | cons d ds ih =>
    intro es i Z h hs1 hs2 hz hTI hTO h1 h2 hd he
    cases es with
    | nil => exact fin [] [] i Z h hs1 hs2 hz hTI hTO h1 h2 (.inr he)
    | cons e es =>
      intro s Z₁ Q E C hq
      obtain ⟨v, vs', ev, hv, hvr⟩ := hd
      obtain ⟨w, ws', ew, hw, hwr⟩ := he
      obtain ⟨x1, d1⟩ := drop_cons_get ev
      obtain ⟨x2, d2⟩ := drop_cons_get ew
      obtain ⟨a, b, hTO⟩ := hTO
      have L1 := (hs1.mono C.z).list C.zin
      have L2 := (hs2.mono C.z).list C.zin
      have cz := C.u _ _ (.inl rfl) hz
      have cTI := C.u _ _ (.inr (.inl rfl)) hTI
      refine wpAny_pyNext_zip_item D' cz cTI (C.u _ _ (.inr (.inr (.inl rfl))) hTO) (IsListIter.at' h1 fun o e => C.u _ _ (.inr (.inr (.inr (.inl rfl)))) e) (IsListIter.at' h2 fun o e => C.u _ _ (.inr (.inr (.inr (.inr rfl)))) e)
        L1 L2 x1 x2 fun h' hz' hTO' h1' h2' hT hsz hk => ?_
      dsimp only
      refine wpAny_letOwnedTupleGo_zip hz' fun h'' hz'' hs => ?_
      have nz : s.heap.objs.size ≠ z := fun q => absurd (Heap.lt_size cz) (q ▸ Nat.lt_irrefl _)
      have nTI : s.heap.get? s.heap.objs.size = none := fresh_none
      have hT'' := (hs.2 _ nz).trans hT
      have zT : Z₁ s.heap.objs.size = none := C.zin.none fresh_none
      have nu : ∀ {a o}, Z₁ a = some o → ∀ q, (q = z ∨ q = TI ∨ q = TO ∨ q = i1 ∨ q = i2) → a ≠ q := fun {a o} e q hq' e' => by subst e'; rw [C.uz _ hq'] at e; cases e
      have keep2 : ∀ b o, b ≠ z → b ≠ TO → b ≠ i1 → b ≠ i2 → s.heap.get? b = some o → h''.get? b = some o := fun b o n1 n2 n3 n4 e => (hs.2 _ n1).trans (hk b o n1 n2 n3 n4 e)
      have zin2 : Zin Z₁ h'' := fun a o e => keep2 a o (nu e _ (.inl rfl)) (nu e _ (.inr (.inr (.inl rfl)))) (nu e _ (.inr (.inr (.inr (.inl rfl))))) (nu e _ (.inr (.inr (.inr (.inr rfl))))) (C.zin _ _ e)
      refine hq (.ref s.heap.objs.size) (Z₁.add s.heap.objs.size _) (fun b => b = z ∨ b = TI ∨ b = TO ∨ b = i1 ∨ b = i2) { s with heap := h'' }
        ⟨⟨h'', s.toks, rfl⟩, fun b o nb e => keep2 b o (fun q => nb (.inl q)) (fun q => nb (.inr (.inr (.inl q)))) (fun q => nb (.inr (.inr (.inr (.inl q))))) (fun q => nb (.inr (.inr (.inr (.inr q))))) e, Zm.le_add zT, zin2.add hT'', fun a o _ e ne => ?_⟩
        ⟨_, [v, w], rfl, ⟨_, Zm.add_self .., ⟨rfl, rfl, rfl⟩, _, rfl⟩, ⟨v, [w], rfl, Holds.mono (Zm.le_add zT) (Holds.mono C.z hv), w, [], rfl, Holds.mono (Zm.le_add zT) (Holds.mono C.z hw), rfl⟩⟩ ?_ (fun b e => e) ?_ ?_
      · rw [Zm.add_other]; exact ne
        intro q; subst q; rw [fresh_none] at e; cases e
      · refine ih es (i + 1) _ h'' ((hs1.mono C.z).mono (Zm.le_add zT)) ((hs2.mono C.z).mono (Zm.le_add zT)) hz'' (keep2 _ _ D'.TIz D'.TITO D'.TIi1 D'.TIi2 cTI) ⟨v, w, (hs.2 _ D'.TOz).trans hTO'⟩ (IsListIter.at' h1' fun o e => (hs.2 _ D'.i1z).trans e) (IsListIter.at' h2' fun o e => (hs.2 _ D'.i2z).trans e) ?_ ?_
        · rw [d1]; exact HoldsL.mono (Zm.le_add zT) (HoldsL.mono C.z hvr)
        · rw [d2]; exact HoldsL.mono (Zm.le_add zT) (HoldsL.mono C.z hwr)
      · rintro b (rfl | rfl | rfl | rfl | rfl)
        · exact ⟨_, hz'', .fields rfl⟩
        · exact ⟨_, keep2 _ _ D'.TIz D'.TITO D'.TIi1 D'.TIi2 cTI, .tuple rfl ⟨_, _, rfl⟩⟩
        · exact ⟨_, (hs.2 _ D'.TOz).trans hTO', .tuple rfl ⟨_, _, rfl⟩⟩
        · exact IsListIter.get (IsListIter.at' h1' fun o e => (hs.2 _ D'.i1z).trans e)
        · exact IsListIter.get (IsListIter.at' h2' fun o e => (hs.2 _ D'.i2z).trans e)
      · intro b hb
        have ex : ∃ o, s.heap.get? b = some o := by
          rcases hb with rfl | rfl | rfl | rfl | rfl
          · exact ⟨_, cz⟩
          · exact ⟨_, cTI⟩
          · exact ⟨_, C.u _ _ (.inr (.inr (.inl rfl))) hTO⟩
          · obtain ⟨o, e, _⟩ := h1; exact ⟨o, C.u _ _ (.inr (.inr (.inr (.inl rfl)))) e⟩
          · obtain ⟨o, e, _⟩ := h2; exact ⟨o, C.u _ _ (.inr (.inr (.inr (.inr rfl)))) e⟩
        obtain ⟨o, e⟩ := ex
        rw [Zm.add_other]
        · exact C.uz _ hb
        · intro q; subst q; rw [fresh_none] at e; cases e
theorem It.zip {elts : List Expr} {kk : Nat} {tp np pos : Pos} {e₁ e₂ : Expr} (c : Callee G sc (Str.ofString "zip") (.type "zip")) {ds es : List D} (a : Evs G n sc ρ [e₁, e₂] [.list ds, .list es]) (hs : noStar [e₁, e₂] = true) :
    It G n sc ρ (.Tuple elts kk tp) (.Call (.Name (Str.ofString "zip") np) [e₁, e₂] [] pos) (zipD ds es) false := by
  intro A env g Z s Q E rm he S hq
  refine wpAny_Call_NameR (c.eval S he ?_)
  refine callWith_pos S rm he Kpr.type hs a fun vs Z1 s1 st1 hv => ?_
  obtain ⟨v, ws, rfl, ⟨l1, vs1, rfl, hs1, hh1⟩, v₂, ws₂, rfl, ⟨l2, vs2, rfl, hs2, hh2⟩, rfl⟩ := hv
  have L1 := hs1.list st1.zin
  have L2 := hs2.list st1.zin
  have lt1 : l1 < s1.heap.objs.size := by obtain ⟨o, e, _⟩ := L1; exact Heap.lt_size e
  have lt2 : l2 < s1.heap.objs.size := by obtain ⟨o, e, _⟩ := L2; exact Heap.lt_size e
  refine call_zip_2 L1 L2 fun h' hz hTI hTO h1 h2 hsz hk => ?_
  have st2 := PStep.same (h' := h') (tk := s1.toks) st1.zin hk
  refine wpAny_pyIter_zip hz ?_
  have D' := zipApart_new lt1 lt2
  have fr0 : ∀ k, s1.heap.get? (s1.heap.objs.size + k) = none := fun k => by
    cases q : s1.heap.get? (s1.heap.objs.size + k) with
    | none => rfl
    | some o => exact absurd (Heap.lt_size q) (Nat.not_lt.mpr (Nat.le_add_right _ _))
  have fr : ∀ k, s.heap.get? (s1.heap.objs.size + k) = none := fun k => none_of_keep st1.keep (fr0 k)
  have fz : ∀ k, Z1 (s1.heap.objs.size + k) = none := fun k => st1.zin.none (fr0 k)
  refine hq _ Z1 _ (fun b => b = s1.heap.objs.size + 4 ∨ b = s1.heap.objs.size + 2 ∨ b = s1.heap.objs.size + 3 ∨ b = s1.heap.objs.size ∨ b = s1.heap.objs.size + 1) (fun _ => False) (st1.trans st2)
    (Feeds.zip rm.hh D' ds es 0 Z1 h' hs1 hs2 hz hTI ⟨_, _, hTO⟩ h1 h2 (by simpa using hh1) (by simpa using hh2)) ?_ (fun _ _ h => h) (fun _ h => h.elim) ?_
  · rintro b (rfl | rfl | rfl | rfl | rfl)
    · exact ⟨⟨fr 4, fz 4⟩, _, hz, .fields rfl⟩
    · exact ⟨⟨fr 2, fz 2⟩, _, hTI, .tuple rfl ⟨_, _, rfl⟩⟩
    · exact ⟨⟨fr 3, fz 3⟩, _, hTO, .tuple rfl ⟨_, _, rfl⟩⟩
    · exact ⟨⟨fr 0, fz 0⟩, IsListIter.get h1⟩
    · exact ⟨⟨fr 1, fz 1⟩, IsListIter.get h2⟩
  · intro s₂ Z₂ Q' E' C hq'
    exact wpAny_pyIter_zip (C.u _ _ (.inl rfl) hz) hq'
theorem Feeds.enum (hh : A.handled = none) {elts : List Expr} {kk : Nat} {tp : Pos} {e it l : Addr} (hei : e ≠ it) (hle : l ≠ e) (hli : l ≠ it) {vs : List Value} {B : Addr → Prop} :
    ∀ (ds : List D) (i : Nat) (Z : Zm) (h : Heap), (B l ∨ SeqZ Z "list" l vs) → (∃ old, IsEnum h e it i old) → h.IsListIter it l i → h.IsList l vs.toArray →
      HoldsL Z ds (vs.drop i) → Feeds G A (.Tuple elts kk tp) (.ref e) (enumD i ds) Z (fun b => b = e ∨ b = it) B h
  | [], i, Z, h, hb, ⟨old, he⟩, hit, hl, hd => by
    intro s Z₁ Q E C hq
    have hl' : s.heap.IsList l vs.toArray := by
      rcases hb with b | q
      · obtain ⟨o, e, r⟩ := hl; exact ⟨o, C.b _ _ b e, r⟩
      · exact (q.mono C.z).list C.zin
    refine wpAny_pyNext_enum_end hh (C.u _ _ (.inl rfl) he) (IsListIter.at' hit fun o e => C.u _ _ (.inr rfl) e) hl' (drop_nil_get hd) fun h' hx => ?_
    exact hq _ ⟨⟨h', s.toks, rfl⟩, fun b o nb e => hx b o (fun q => nb (.inr q)) e, Zle.refl _, fun a o e => hx a o (fun q => by subst q; rw [C.uz _ (.inr rfl)] at e; cases e) (C.zin _ _ e), fun _ _ _ _ e => e⟩
  | d :: ds, i, Z, h, hb, ⟨old, he⟩, hit, hl, hd => by
    intro s Z₁ Q E C hq
    have hl' : s.heap.IsList l vs.toArray := by
      rcases hb with b | q
      · obtain ⟨o, e, r⟩ := hl; exact ⟨o, C.b _ _ b e, r⟩
      · exact (q.mono C.z).list C.zin
    obtain ⟨v, vs', ev, hv, hvr⟩ := hd
    obtain ⟨x1, d1⟩ := drop_cons_get ev
    have ce := C.u _ _ (.inl rfl) he
    refine wpAny_pyNext_enum_item ce (IsListIter.at' hit fun o e => C.u _ _ (.inr rfl) e) hl' x1 hei fun h' he' hit' hT hsz hk => ?_
    dsimp only
    refine wpAny_letOwnedTupleGo_enum he' fun h'' he'' hs => ?_
    have ne : s.heap.objs.size ≠ e := fun q => absurd (Heap.lt_size ce) (q ▸ Nat.lt_irrefl _)
    have hT'' := (hs.2 _ ne).trans hT
    have zT : Z₁ s.heap.objs.size = none := C.zin.none fresh_none
    have keep2 : ∀ b o, b ≠ e → b ≠ it → s.heap.get? b = some o → h''.get? b = some o := fun b o n1 n2 q => (hs.2 _ n1).trans (hk b o n1 n2 q)
    have zin2 : Zin Z₁ h'' := fun a o q => keep2 a o (fun r => by subst r; rw [C.uz _ (.inl rfl)] at q; cases q) (fun r => by subst r; rw [C.uz _ (.inr rfl)] at q; cases q) (C.zin _ _ q)
    have hl'' : h''.IsList l vs.toArray := let ⟨o, q, r⟩ := hl'; ⟨o, keep2 _ _ hle hli q, r⟩
    refine hq (.ref s.heap.objs.size) (Z₁.add s.heap.objs.size _) (fun b => b = e ∨ b = it) { s with heap := h'', toks := s.toks + 1 }
      ⟨⟨h'', _, rfl⟩, fun b o nb q => keep2 b o (fun r => nb (.inl r)) (fun r => nb (.inr r)) q, Zm.le_add zT, zin2.add hT'', fun a o _ q nq => ?_⟩
      ⟨_, [.int i s.toks, v], rfl, ⟨_, Zm.add_self .., ⟨rfl, rfl, rfl⟩, _, rfl⟩, ⟨_, [v], rfl, ⟨_, rfl⟩, v, [], rfl, Holds.mono (Zm.le_add zT) (Holds.mono C.z hv), rfl⟩⟩ ?_ (fun b q => q) ?_ ?_
    · rw [Zm.add_other]; exact nq
      intro r; subst r; rw [fresh_none] at q; cases q
    · have := Feeds.enum hh (elts := elts) (kk := kk) (tp := tp) (B := B) hei hle hli ds (i + 1) (Z₁.add s.heap.objs.size _) h'' (hb.imp id fun q => (q.mono C.z).mono (Zm.le_add (o := { cls := Value.type "tuple", data := Data.seq #[Value.int (↑i) s.toks, v] }) zT)) ⟨v, by rw [show (((i + 1 : Nat) : Int)) = (i : Int) + 1 by omega]; exact he''⟩ (IsListIter.at' hit' fun o q => (hs.2 _ (Ne.symm hei)).trans q) hl'' (by rw [d1]; exact HoldsL.mono (Zm.le_add zT) (HoldsL.mono C.z hvr))
      rw [show (((i + 1 : Nat) : Int)) = (i : Int) + 1 by omega] at this
      exact this
    · rintro b (rfl | rfl)
      · exact ⟨_, he'', .fields rfl⟩
      · exact IsListIter.get (IsListIter.at' hit' fun o q => (hs.2 _ (Ne.symm hei)).trans q)
    · intro b hb
      have ex : ∃ o, s.heap.get? b = some o := by
        rcases hb with rfl | rfl
        · exact ⟨_, ce⟩
        · obtain ⟨o, e, _⟩ := hit; exact ⟨o, C.u _ _ (.inr rfl) e⟩
      obtain ⟨o, e⟩ := ex
      rw [Zm.add_other]
      · exact C.uz _ hb
      · intro q; subst q; rw [fresh_none] at e; cases e
theorem It.enum {elts : List Expr} {kk : Nat} {tp np pos : Pos} {e₁ : Expr} (c : Callee G sc (Str.ofString "enumerate") (.type "enumerate")) {ds : List D} (a : Evs G n sc ρ [e₁] [.list ds]) (hs : noStar [e₁] = true) :
    It G n sc ρ (.Tuple elts kk tp) (.Call (.Name (Str.ofString "enumerate") np) [e₁] [] pos) (enumD 0 ds) false := by
  intro A env g Z s Q E rm he S hq
  refine wpAny_Call_NameR (c.eval S he ?_)
  refine callWith_pos S rm he Kpr.type hs a fun vs Z1 s1 st1 hv => ?_
  obtain ⟨v, ws, rfl, ⟨l1, vs1, rfl, hs1, hh1⟩, rfl⟩ := hv
  have L1 := hs1.list st1.zin
  have lt1 : l1 < s1.heap.objs.size := by obtain ⟨o, e, _⟩ := L1; exact Heap.lt_size e
  refine call_enumerate_list L1 fun h' hz h1 hsz hk => ?_
  have st2 := PStep.same (h' := h') (tk := s1.toks) st1.zin hk
  refine wpAny_pyIter_enum hz ?_
  have fr0 : ∀ k, s1.heap.get? (s1.heap.objs.size + k) = none := fun k => by
    cases q : s1.heap.get? (s1.heap.objs.size + k) with
    | none => rfl
    | some o => exact absurd (Heap.lt_size q) (Nat.not_lt.mpr (Nat.le_add_right _ _))
  have fr : ∀ k, s.heap.get? (s1.heap.objs.size + k) = none := fun k => none_of_keep st1.keep (fr0 k)
  have fz : ∀ k, Z1 (s1.heap.objs.size + k) = none := fun k => st1.zin.none (fr0 k)
  refine hq _ Z1 _ (fun b => b = s1.heap.objs.size + 1 ∨ b = s1.heap.objs.size) (fun _ => False) (st1.trans st2)
    (Feeds.enum rm.hh (Nat.succ_ne_self _) (Nat.ne_of_lt (Nat.lt_succ_of_lt lt1)) (Nat.ne_of_lt lt1) ds 0 Z1 h' (.inr hs1) ⟨_, hz⟩ h1 (Heap.IsList.at L1 (fun o e => hk _ o e)) (by simpa using hh1)) ?_ (fun _ _ h => h) (fun _ h => h.elim) ?_
  · rintro b (rfl | rfl)
    · exact ⟨⟨fr 1, fz 1⟩, _, hz, .fields rfl⟩
    · exact ⟨⟨fr 0, fz 0⟩, IsListIter.get h1⟩
  · intro s₂ Z₂ Q' E' C hq'
    exact wpAny_pyIter_enum (C.u _ _ (.inl rfl) hz) hq'
/-- enumerate of a list of the frame's own -/
theorem It.enumOwn {elts : List Expr} {kk : Nat} {tp np pos xp : Pos} {x : Str} (c : Callee G sc (Str.ofString "enumerate") (.type "enumerate")) {ds : List D} (e : ρ.lookup x = some (.own ds)) (ok : okName x = true) :
    It G n sc ρ (.Tuple elts kk tp) (.Call (.Name (Str.ofString "enumerate") np) [.Name x xp] [] pos) (enumD 0 ds) true := by
  intro A env g Z s Q E rm he S hq
  obtain ⟨h1', h2'⟩ := Bool.and_eq_true_iff.mp ok
  refine wpAny_Call_NameR (c.eval S he ?_)
  refine callWith_of (P := fun h => G.Bs h) rfl Kpr.type (evalArgs_any rfl (spliced_more (wpAny_Name (S.load e (fun v o _ hs => ?_) (by simpa using h2')) (by simpa using h1')))) 
  obtain ⟨l1, vs1, _, rfl, hz1, L1', hh1⟩ := hs
  have L1 := L1'.list
  refine spliced_none ⟨S.z0.bs S.zin, ?_⟩
  have lt1 : l1 < s.heap.objs.size := by obtain ⟨o, e, _⟩ := L1; exact Heap.lt_size e
  refine call_enumerate_list L1 fun h' hz h1 hsz hk => ?_
  have st2 := PStep.same (h' := h') (tk := s.toks) S.zin hk
  refine wpAny_pyIter_enum hz ?_
  have fr : ∀ k, s.heap.get? (s.heap.objs.size + k) = none := fun k => by
    cases q : s.heap.get? (s.heap.objs.size + k) with
    | none => rfl
    | some o => exact absurd (Heap.lt_size q) (Nat.not_lt.mpr (Nat.le_add_right _ _))
  have fz : ∀ k, Z (s.heap.objs.size + k) = none := fun k => S.zin.none (fr k)
  refine hq _ Z _ (fun b => b = s.heap.objs.size + 1 ∨ b = s.heap.objs.size) (fun b => b = l1) st2
    (Feeds.enum rm.hh (Nat.succ_ne_self _) (Nat.ne_of_lt (Nat.lt_succ_of_lt lt1)) (Nat.ne_of_lt lt1) ds 0 Z h' (.inl rfl) ⟨_, hz⟩ h1 (Heap.IsList.at L1 (fun o e => hk _ o e)) (by simpa using hh1)) ?_ (fun h => nomatch h) (fun b e => by subst e; obtain ⟨o, e, _⟩ := L1; exact ⟨o, e⟩) ?_
  · rintro b (rfl | rfl)
    · exact ⟨⟨fr 1, fz 1⟩, _, hz, .fields rfl⟩
    · exact ⟨⟨fr 0, fz 0⟩, IsListIter.get h1⟩
  · intro s₂ Z₂ Q' E' C hq'
    exact wpAny_pyIter_enum (C.u _ _ (.inl rfl) hz) hq'
end
end M3
end
-- part C10
section
namespace M3
open PySem PySem.Calls PySem.Spec PyProof.Rows PySem.W
/-- a heap where D alone stands -/
def onlyAt (D : Addr) : Heap := ⟨(Array.replicate D ({ cls := .none, data := .freed } : Obj)).push { cls := .none }, {}⟩
theorem onlyAt_ne {D a : Addr} (h : (onlyAt D).get? a = none) : a ≠ D := by
  rintro rfl
  have hs : (Array.replicate a ({ cls := .none, data := .freed } : Obj)).size = a := by simp
  unfold onlyAt Heap.get? at h
  simp only [Array.getElem?_push, hs, if_true] at h
  cases h
theorem onlyAt_none {D a : Addr} (h : a ≠ D) : (onlyAt D).get? a = none := by
  unfold onlyAt Heap.get?
  simp only [Array.getElem?_push, Array.size_replicate]
  rw [if_neg h]
  simp only [Array.getElem?_replicate]
  by_cases q : a < D
  · rw [if_pos q]
  · rw [if_neg q]
theorem Rho.sub_set {ρ : Rho} {x : Str} {sl : Slot} (h : ρ.lookup x = none) : ∀ y t, ρ.lookup y = some t → (ρ.set x sl).lookup y = some t := by
  intro y t e
  rw [Rho.lookup_set]
  have : y ≠ x := fun q => by subst q; rw [h] at e; cases e
  rw [if_neg this]; exact e
section
variable {G : Gc} {n : Nat} {sc : Scope} {ρ : Rho} {A : Around} {E : Value → Shared → Prop}
theorem Sees.weak {env g Z ρ ρ' h} (S : Sees G env g Z ρ h) (hsub : ∀ x sl, ρ'.lookup x = some sl → ρ.lookup x = some sl) : Sees G env g Z ρ' h := by
  obtain ⟨pl, V⟩ := S.vars
  refine ⟨S.z0, S.zin, S.ek, S.eg, S.eb, S.ns, S.nz, S.cells, S.cinj, fun x => if (ρ'.lookup x).isSome then pl x else none, fun x sl e => ?_, fun x e => ?_, fun x y a e1 e2 => ?_, fun x a e => ?_⟩
  · obtain ⟨v, hv, hs⟩ := V.at_ x sl (hsub x sl e)
    exact ⟨v, hv, by rw [e]; exact hs⟩
  · simp [e]
  · split at e1
    · split at e2
      · exact V.inj x y a e1 e2
      · cases e2
    · cases e1
  · split at e
    · exact V.og x a e
    · cases e
theorem UStep.refl {U : Addr → Prop} {Z : Zm} {s : Shared} (h : Zin Z s.heap) : UStep U Z s Z s := ⟨⟨s.heap, s.toks, rfl⟩, fun _ _ _ e => e, Zle.refl _, h, fun _ _ _ _ e => e⟩
theorem UStep.trans {X Y : Addr → Prop} {Z Z1 Z2 : Zm} {s s1 s2 : Shared} (x : UStep X Z s Z1 s1) (y : UStep Y Z1 s1 Z2 s2) (h : ∀ b, Y b → X b ∨ s.heap.get? b = none) : UStep X Z s Z2 s2 := by
  have hk : ∀ b o, ¬ X b → s.heap.get? b = some o → ¬ Y b := fun b o nx e yb => by
    rcases h b yb with q | q
    · exact nx q
    · rw [q] at e; cases e
  obtain ⟨h1, t1, rfl⟩ := x.st
  obtain ⟨h2, t2, rfl⟩ := y.st
  exact ⟨⟨h2, t2, rfl⟩, fun b o nx e => y.keep b o (hk b o nx e) (x.keep b o nx e), x.z.trans y.z, y.zin, fun a o nx e nz => y.zn a o (hk a o nx e) (x.keep a o nx e) (x.zn a o nx e nz)⟩
theorem PStep.u {X : Addr → Prop} {Z Z' : Zm} {s s' : Shared} (x : PStep Z s Z' s') : UStep X Z s Z' s' := ⟨x.st, fun b o _ e => x.keep b o e, x.z, x.zin, fun a o _ e n => x.zn a o e n⟩
theorem UStep.p {X : Addr → Prop} {Z Z' : Zm} {s s' : Shared} (x : UStep X Z s Z' s') (h : ∀ b, X b → s.heap.get? b = none) : PStep Z s Z' s' := by
  have hk : ∀ b o, s.heap.get? b = some o → ¬ X b := fun b o e q => by rw [h b q] at e; cases e
  exact ⟨x.st, fun b o e => x.keep b o (hk b o e) e, x.z, x.zin, fun a o e n => x.zn a o (hk a o e) e n⟩
theorem UStep.mono {X Y : Addr → Prop} {Z Z' : Zm} {s s' : Shared} (x : UStep X Z s Z' s') (h : ∀ b, X b → Y b) : UStep Y Z s Z' s' :=
  ⟨x.st, fun b o n e => x.keep b o (fun q => n (h b q)) e, x.z, x.zin, fun a o n e => x.zn a o (fun q => n (h a q)) e⟩
theorem Ns.notOdd {h : Heap} {a : Addr} {m} (x : h.Ns a m) {o : Obj} (e : h.get? a = some o) : ¬ Odd o := by
  obtain ⟨o', es, ep, ho, hd, _⟩ := x
  rw [ho] at e; cases e
  exact fun q => q.d _ _ hd
theorem IsCell.notOdd {h : Heap} {a : Addr} {v} (x : h.IsCell a v) {o : Obj} (e : h.get? a = some o) : ¬ Odd o := by
  obtain ⟨o', ho, hd⟩ := x
  rw [ho] at e; cases e
  exact fun q => q.c _ hd
theorem IsList.notOdd {h : Heap} {a : Addr} {vs} (x : PL h a vs) {o : Obj} (e : h.get? a = some o) : ¬ Odd o := by
  obtain ⟨o', ho, hc, k, hd⟩ := x
  rw [ho] at e; cases e
  exact fun q => q.l _ _ hd hc.c
theorem SlotH.ustep {U : Addr → Prop} {Z Z' : Zm} {s s' : Shared} {sl : Slot} {v : Value} {o : Option Addr} (x : SlotH Z s.heap sl v o) (u : UStep U Z s Z' s') (hU : ∀ b vs, PL s.heap b vs → o = some b → ¬ U b) : SlotH Z' s'.heap sl v o := by
  have up : ∀ {b vs}, PL s.heap b vs → o = some b → PL s'.heap b vs := fun {b vs} y ho => by
    obtain ⟨ob, e, r⟩ := id y
    exact ⟨ob, u.keep b ob (hU b vs y ho) e, r⟩
  have zn : ∀ {b vs}, PL s.heap b vs → o = some b → Z b = none → Z' b = none := fun {b vs} y ho n => by
    obtain ⟨ob, e, r⟩ := id y
    exact u.zn b ob (hU b vs y ho) e n
  cases sl with
  | fz d => exact ⟨x.1, Holds.mono u.z x.2⟩
  | own l => obtain ⟨b, vs, e, ev, hz, hl, hh⟩ := x; exact ⟨b, vs, e, ev, zn hl e hz, up hl e, HoldsL.mono u.z hh⟩
  | hdr c l => obtain ⟨xx, b, vs, e, ev, hi, hz, hl, hh⟩ := x; exact ⟨xx, b, vs, e, ev, hi.mono u.z, zn hl e hz, up hl e, HoldsL.mono u.z hh⟩
/-- a frame goes through a step that leaves its namespace, its cells and its lists alone -/
theorem Sees.ustep {U : Addr → Prop} {env g Z Z'} {s s' : Shared} (S : Sees G env g Z ρ s.heap) (u : UStep U Z s Z' s') (hn : ∀ m, s.heap.Ns env.locals m → ¬ U env.locals)
    (hc : ∀ c v, s.heap.IsCell c v → (∃ x, (env.kindOf x = some .cell ∨ env.kindOf x = some .free) ∧ env.cells.lookup x = some c) → ¬ U c)
    (hl : ∀ pl, Vars env g Z ρ s.heap pl → ∀ x b vs, PL s.heap b vs → pl x = some b → ¬ U b) : Sees G env g Z' ρ s'.heap := by
  have ns : ∀ {m}, s.heap.Ns env.locals m → s'.heap.Ns env.locals m := fun {m} y => by
    obtain ⟨o, es, ep, e, r⟩ := id y
    exact ⟨o, es, ep, u.keep _ _ (hn m y) e, r⟩
  have cl : ∀ {c v x}, (env.kindOf x = some .cell ∨ env.kindOf x = some .free) → env.cells.lookup x = some c → s.heap.IsCell c v → s'.heap.IsCell c v := fun {c v x} hk hx y => by
    obtain ⟨o, e, r⟩ := id y
    exact ⟨o, u.keep _ _ (hc c v y ⟨x, hk, hx⟩) e, r⟩
  refine ⟨S.z0.mono u.z, u.zin, S.ek, S.eg, S.eb, let ⟨m, q⟩ := S.ns; ⟨m, ns q⟩, ?_, fun x hk => ?_, S.cinj, ?_⟩
  · obtain ⟨m, q⟩ := S.ns
    obtain ⟨o, e⟩ := Ns.get q
    exact u.zn _ o (hn m q) e S.nz
  · obtain ⟨c, v, e, hv, hz⟩ := S.cells x hk
    obtain ⟨o, eo⟩ := IsCell.get hv
    exact ⟨c, v, e, cl hk e hv, u.zn c o (hc c v hv ⟨x, hk, e⟩) eo hz⟩
  · obtain ⟨pl, V⟩ := S.vars
    refine ⟨pl, fun x sl e => ?_, V.out, V.inj, V.og⟩
    obtain ⟨v, hv, hs⟩ := V.at_ x sl e
    refine ⟨v, ?_, hs.ustep u fun b vs y ho => hl pl V x b vs y ho⟩
    rcases hv with ⟨a, m, hm, e⟩ | ⟨a, c, hc', hv⟩
    · exact .inl ⟨a, m, ns hm, e⟩
    · exact .inr ⟨a, c, hc', cl a hc' hv⟩
/-- ... such as an iterator's step -/
theorem Sees.iter {U : Addr → Prop} {env g Z Z'} {s s' : Shared} (S : Sees G env g Z ρ s.heap) (u : UStep U Z s Z' s') (hU : ∀ b o, U b → s.heap.get? b = some o → Odd o) : Sees G env g Z' ρ s'.heap :=
  S.ustep u (fun m y q => by obtain ⟨o, e⟩ := Ns.get y; exact Ns.notOdd y e (hU _ _ q e))
    (fun c v y _ q => by obtain ⟨o, e⟩ := IsCell.get y; exact IsCell.notOdd y e (hU _ _ q e))
    (fun pl V x b vs y _ q => by obtain ⟨o, e⟩ := IsList.get y; exact IsList.notOdd y e (hU _ _ q e))
/-- ... or the growing of a list that is none of its own -/
theorem Sees.atList {D : Addr} {vs : Array Value} {env Z Z'} {s s' : Shared} (S : Sees G env (onlyAt D) Z ρ s.heap) (u : UStep (fun b => b = D) Z s Z' s') (hl : PL s.heap D vs) : Sees G env (onlyAt D) Z' ρ s'.heap := by
  refine S.ustep u (fun m y q => ?_) (fun c v y _ q => ?_) (fun pl V x b vs' y hp q => onlyAt_ne (V.og x b hp) q)
  · exact Ns.ne_list y hl q
  · exact IsCell.ne_list y hl q
/-- what a target's store may turn -/
def Wt (env : Env) (tgs : List Str) : Addr → Prop := fun b => b = env.locals ∨ ∃ x ∈ tgs, env.kindOf x = some .cell ∧ env.cells.lookup x = some b
theorem Wt.list {env g Z} {tgs : List Str} {s : Shared} {b : Addr} {vs : Array Value} (S : Sees G env g Z ρ s.heap) (h : Wt env tgs b) (hl : PL s.heap b vs) : False := by
  rcases h with rfl | ⟨x, _, hk, hc⟩
  · obtain ⟨m, hm⟩ := S.ns
    exact Ns.ne_list hm hl rfl
  · obtain ⟨c, v, e, hv, _⟩ := S.cells x (.inl hk)
    rw [hc] at e; cases e
    exact IsCell.ne_list hv hl rfl
theorem Wt.notOdd {env g Z} {tgs : List Str} {s : Shared} {b : Addr} {o : Obj} (S : Sees G env g Z ρ s.heap) (h : Wt env tgs b) (e : s.heap.get? b = some o) : ¬ Odd o := by
  rcases h with rfl | ⟨x, _, hk, hc⟩
  · obtain ⟨m, hm⟩ := S.ns
    exact Ns.notOdd hm e
  · obtain ⟨c, v, ec, hv, _⟩ := S.cells x (.inl hk)
    rw [hc] at ec; cases ec
    exact IsCell.notOdd hv e
end
section
variable (G : Gc)
/-- an assignment target: what it stores -/
def Tg (sc : Scope) (tgs : List Str) (ρ : Rho) (tg : Expr) (d : D) (ρ' : Rho) : Prop :=
  ∀ (A : Around) (env : Env) (g : Heap) (Z : Zm) (s : Shared) (v : Value) (Q : Unit → Shared → Prop) (E : Value → Shared → Prop), A.handled = none → env.scope = sc → Sees G env g Z ρ s.heap → Holds Z d v →
    (∀ s', UStep (Wt env tgs) Z s Z s' → Sees G env g Z ρ' s'.heap → Q () s') → wpAny (model G.prog G.w) A (assign tg env v) Q E s
end
section
variable {G : Gc} {n : Nat} {sc : Scope} {ρ : Rho} {tgs : List Str}
def storable (sc : Scope) (x : Str) : Bool := sc.names.lookup x == some .local || sc.names.lookup x == some .cell
theorem storable.kind {env : Env} {x : Str} (h : storable sc x = true) (he : env.scope = sc) : env.kindOf x = some .local ∨ env.kindOf x = some .cell := by
  unfold Env.kindOf
  rw [he]
  rcases Bool.or_eq_true_iff.mp h with q | q
  · exact .inl (beq_iff_eq.mp q)
  · exact .inr (beq_iff_eq.mp q)
theorem Sees.tg {A : Around} {E : Value → Shared → Prop} {env g Z} {s : Shared} {x : Str} {v : Value} {d : D} {Q : Unit → Shared → Prop} (S : Sees G env g Z ρ s.heap) (he : env.scope = sc) (hx : storable sc x = true) (hm : x ∈ tgs) (hd : Holds Z d v)
    (h : ∀ s', UStep (Wt env tgs) Z s Z s' → Sees G env g Z (ρ.set x (.fz d)) s'.heap → Q () s') : wpAny (model G.prog G.w) A (storeName env x v) Q E s := by
  refine S.store (o := none) (sl := .fz d) (storable.kind hx he) ⟨rfl, hd⟩ (fun _ _ _ _ _ _ e => nomatch e) (fun _ e => nomatch e) fun h' tk a S' hs ha => h _ ⟨⟨h', tk, rfl⟩, fun b o nb e => ?_, Zle.refl _, S'.zin, fun _ _ _ _ e => e⟩ S'
  have : b ≠ a := by
    rintro rfl
    rcases ha with q | ⟨hk, hc⟩
    · exact nb (.inl q)
    · exact nb (.inr ⟨x, hm, hk, hc⟩)
  exact (hs.2 b this).trans e
theorem Tg.name {x : Str} {pos : Pos} {d : D} (hx : storable sc x = true) (hm : x ∈ tgs) : Tg G sc tgs ρ (.Name x pos) d (ρ.set x (.fz d)) := by
  intro A env g Z s v Q E hh he S hd h
  exact wpAny_assign_Name (S.tg he hx hm hd h)
theorem assignInOrder_nil {M : Model} {A : Around} {E : Value → Shared → Prop} {s : Shared} {Q : Unit → Shared → Prop} (h : Q () s) : wpAny M A (assignInOrder [] []) Q E s := wpAny_pure h
theorem assignEach_names (a b : Str) (pa pb : Pos) (env : Env) : assignEach [.Name a pa, .Name b pb] env = [(false, assign (.Name a pa) env), (false, assign (.Name b pb) env)] := rfl
end
end M3
end
-- part C11
section
namespace M3
open PySem PySem.Calls PySem.Spec PyProof.Rows PySem.W
def setAll : Rho → List Str → List D → Rho
  | ρ, x :: xs, d :: ds => setAll (ρ.set x (.fz d)) xs ds
  | ρ, _, _ => ρ
section
variable {prog : Program} {w : World} {A : Around} {E : Value → Shared → Prop} {s : Shared}
theorem draw_list {it t : Addr} {items : Array Value} (hne : t ≠ it) : ∀ (n i : Nat) (s : Shared) (Q : List Value → Shared → Prop), s.heap.IsListIter it t i → s.heap.IsList t items → i + n ≤ items.size →
    (∀ h', h'.IsListIter it t (i + n) → Heap.SameBut it s.heap h' → Q ((items.toList.drop i).take n) { s with heap := h' }) → wpAny (model prog w) A (draw (.ref it) n) Q E s
  | 0, i, s, Q, hit, _, _, hQ => by
    show wpAny _ _ (pure []) Q E s
    exact wpAny_pure (by simpa using hQ s.heap hit (Heap.SameBut.refl ..))
  | n + 1, i, s, Q, hit, ht, hle, hQ => by
    have hlt : i < items.size := by omega
    show wpAny _ _ (pyNext (.ref it) >>= _) Q E s
    refine wpAny_bind (wpAny_pyNext_list_item hit ht (x := items[i]) (by simp [hlt]) fun h₁ hit₁ hs₁ => ?_)
    refine wpAny_bind (wpAny_holding (draw_list hne n (i + 1) _ _ hit₁ (ht.extBut hs₁.extBut hne) (by omega) fun h₂ hit₂ hs₂ => wpAny_pure ?_))
    have hd : items.toList.drop i = items[i] :: items.toList.drop (i + 1) := by simp [List.drop_eq_getElem_cons, hlt]
    have := hQ h₂ (by rw [show i + (n + 1) = i + 1 + n by omega]; exact hit₂) (hs₁.trans hs₂)
    rw [hd, List.take_succ_cons] at this
    exact this
theorem unpackItems_list {t : Addr} {items : Array Value} {Q : List Value → Shared → Prop} (hh : A.handled = none) (ht : s.heap.IsList t items)
    (hQ : ∀ h', Heap.ExtBut s.heap.objs.size s.heap h' → Q items.toList { s with heap := h' }) : wpAny (model prog w) A (unpackItems (.ref t) items.size none) Q E s := by
  have hlt : t ≠ s.heap.objs.size := by obtain ⟨o, ho, _⟩ := ht; exact Nat.ne_of_lt (Heap.lt_size ho)
  unfold unpackItems
  refine wpAny_bind ?_
  unfold notIterableAtAll
  refine wpAny_bind (wpAny_specialOf ht.typeIs slot_list_iter.lookup ?_)
  refine wpAny_pure ?_
  simp only [Bool.false_eq_true, if_false]
  refine wpAny_bind (wpAny_holding (wpAny_pyIter_list ht ?_))
  have ht₀ : (s.heap.push { cls := .type "list_iterator", data := .fields #[.ref t, .int 0 0] }).IsList t items := Heap.IsList.at ht fun _ e => Heap.get?_push_of_some _ e
  refine wpAny_bind (wpAny_holding (draw_list hlt items.size 0 _ _ ⟨_, Heap.get?_push_size _ rfl, rfl, rfl⟩ ht₀ (by omega) fun h₁ hit₁ hs₁ => ?_))
  have hall : List.take items.size (List.drop 0 items.toList) = items.toList := by
    rw [List.drop_zero]; exact List.take_of_length_le (by simp)
  rw [hall]
  rw [if_neg (by simp)]
  have ht₁ : h₁.IsList t items := ht₀.extBut hs₁.extBut hlt
  refine wpAny_bind (wpAny_holding (wpAny_pyNext_list_end hh hit₁ ht₁ (by simp) fun h₂ he₂ => ?_))
  simp only [Option.isSome_none, Bool.false_eq_true, if_false]
  exact wpAny_pure (hQ h₂ fun b o hb e => he₂ b o hb (hs₁.extBut b o hb (Heap.get?_push_of_some _ e)))
end
section
variable {G : Gc} {n : Nat} {sc : Scope} {ρ : Rho} {tgs : List Str}
theorem pstep_ext {Z : Zm} {s : Shared} {h' : Heap} (zin : Zin Z s.heap) (hx : Heap.ExtBut s.heap.objs.size s.heap h') : PStep Z s Z { s with heap := h' } :=
  PStep.same (tk := s.toks) zin fun b o e => hx b o (Nat.ne_of_lt (Heap.lt_size e)) e
/-- the items of a value that can be unpacked -/
theorem unpackItems_seq {A : Around} {E : Value → Shared → Prop} {Z : Zm} {s : Shared} {v : Value} {ds : List D} {k : Nat} {Q : List Value → Shared → Prop} (hh : A.handled = none) (zin : Zin Z s.heap) (hd : Holds Z (.tup ds) v ∨ Holds Z (.list ds) v) (hk : ds.length = k)
    (h : ∀ vs s', PStep Z s Z s' → HoldsL Z ds vs → Q vs s') : wpAny (model G.prog G.w) A (unpackItems v k none) Q E s := by
  rcases hd with ⟨a, vs, rfl, hs, hv⟩ | ⟨a, vs, rfl, hs, hv⟩
  · have e : k = vs.toArray.size := by rw [← hk, ← hv.length]; simp
    subst e
    refine wpAny_unpackItems_tuple hh (hs.tuple zin) fun h' hx => ?_
    exact h vs _ (pstep_ext zin hx) hv
  · have e : k = vs.toArray.size := by rw [← hk, ← hv.length]; simp
    subst e
    refine unpackItems_list hh (hs.list zin) fun h' hx => ?_
    exact h vs _ (pstep_ext zin hx) hv
theorem assignNames {A : Around} {E : Value → Shared → Prop} {env g Z} (he : env.scope = sc) : ∀ (xs : List (Str × Pos)) {ρ : Rho} {ds : List D} {vs : List Value} {s : Shared} {Q : Unit → Shared → Prop}, Sees G env g Z ρ s.heap → HoldsL Z ds vs → xs.length = ds.length → (∀ p ∈ xs, storable sc p.1 = true ∧ p.1 ∈ tgs) →
    (∀ s', UStep (Wt env tgs) Z s Z s' → Sees G env g Z (setAll ρ (xs.map (·.1)) ds) s'.heap → Q () s') → wpAny (model G.prog G.w) A (assignInOrder (xs.map fun p => assign (.Name p.1 p.2) env) vs) Q E s
  | [], ρ, ds, vs, s, Q, S, hv, hl, hx, h => by
    have : ds = [] := List.length_eq_zero_iff.mp hl.symm
    subst this
    have : vs = [] := hv
    subst this
    exact assignInOrder_nil (h s (UStep.refl S.zin) S)
  | p :: xs, ρ, [], vs, s, Q, S, hv, hl, hx, h => by cases hl
  | p :: xs, ρ, d :: ds, _, s, Q, S, ⟨v, vs, rfl, hd, hr⟩, hl, hx, h => by
    refine assignInOrder_cons (wpAny_assign_Name (S.tg (tgs := tgs) he (hx p List.mem_cons_self).1 (hx p List.mem_cons_self).2 hd fun s1 u1 S1 => ?_))
    exact assignNames he xs S1 hr (by simpa using hl) (fun q hq => hx q (List.mem_cons_of_mem _ hq)) fun s2 u2 S2 => h s2 (u1.trans u2 fun b hb => .inl hb) S2
def tgNames (xs : List (Str × Pos)) : List Expr := xs.map fun p => .Name p.1 p.2
theorem assignEach_tgNames (env : Env) : ∀ xs : List (Str × Pos), assignEach (tgNames xs) env = xs.map fun p => (false, assign (.Name p.1 p.2) env)
  | [] => rfl
  | p :: xs => by
    show (false, assign (.Name p.1 p.2) env) :: assignEach (tgNames xs) env = _
    rw [assignEach_tgNames env xs]; rfl
theorem Sees.tgsAll {A : Around} {E : Value → Shared → Prop} {env g Z} {s : Shared} {v : Value} {ds : List D} {xs : List (Str × Pos)} {kk : Nat} {tp : Pos} {Q : Unit → Shared → Prop} (hh : A.handled = none) (he : env.scope = sc) (S : Sees G env g Z ρ s.heap) (hd : Holds Z (.tup ds) v ∨ Holds Z (.list ds) v)
    (hl : xs.length = ds.length) (hx : ∀ p ∈ xs, storable sc p.1 = true ∧ p.1 ∈ tgs)
    (h : ∀ s', UStep (Wt env tgs) Z s Z s' → Sees G env g Z (setAll ρ (xs.map (·.1)) ds) s'.heap → Q () s') : wpAny (model G.prog G.w) A (assign (.Tuple (tgNames xs) kk tp) env v) Q E s := by
  rw [PyProof.Rows.assign_Tuple]
  refine wpAny_bind (wpAny_standAt ?_)
  unfold unpack
  rw [assignEach_tgNames]
  have hst : (xs.map fun p => (false, assign (.Name p.1 p.2) env)).findIdx? (·.1) = none := by
    rw [List.findIdx?_eq_none_iff]; intro q hq; obtain ⟨p, _, rfl⟩ := List.mem_map.mp hq; rfl
  rw [hst, List.length_map, List.map_map]
  refine wpAny_bind (wpAny_holding (unpackItems_seq hh S.zin hd hl.symm fun vs s1 st hv => ?_))
  exact assignNames he xs (S.step st) hv hl hx fun s2 u2 S2 => h s2 (st.u.trans u2 fun b hb => .inl hb) S2
def okTgs (sc : Scope) (tgs : List Str) (xs : List (Str × Pos)) : Bool := xs.all fun p => storable sc p.1 && tgs.contains p.1
theorem okTgs.at_ {xs : List (Str × Pos)} (h : okTgs sc tgs xs = true) : ∀ p ∈ xs, storable sc p.1 = true ∧ p.1 ∈ tgs := fun p hp => by
  have := List.all_eq_true.mp h p hp
  obtain ⟨a, b⟩ := Bool.and_eq_true_iff.mp this
  exact ⟨a, by simpa using b⟩
theorem Tg.tup2 {a b : Str} {pa pb tp : Pos} {kk : Nat} {d e : D} {dd : D} (hdd : dd = .tup [d, e] ∨ dd = .list [d, e]) (ok : okTgs sc tgs [(a, pa), (b, pb)] = true) : Tg G sc tgs ρ (.Tuple [.Name a pa, .Name b pb] kk tp) dd ((ρ.set a (.fz d)).set b (.fz e)) := by
  intro A env g Z s v Q E hh he S hd h
  exact Sees.tgsAll (xs := [(a, pa), (b, pb)]) (ds := [d, e]) hh he S (by rcases hdd with rfl | rfl; exact .inl hd; exact .inr hd) rfl (okTgs.at_ ok) h
end
end M3
end
-- part C12
section
namespace M3
open PySem PySem.Calls PySem.Spec PyProof.Rows PySem.W
abbrev PTr := Around → Env → Value → Value → (Shared → Prop) → (Value → Shared → Prop) → Shared → Prop
/-- one turn of a comprehension's loop, and the loop again -/
def Unroll (G : Gc) (e : Expr) (depth : Nat) (tg : Expr) (pt : PTr) : Prop := ∀ (A : Around) (env : Env) (it acc : Value) (R : Result → Shared → Prop) (s : Shared),
  (∀ E : Value → Shared → Prop, wpAny (model G.prog G.w) A (pyNext it) (fun r s₁ => match r with
    | none => R (.ok .next) s₁
    | some v => wpAny (model G.prog G.w) A (letOwnedTupleGo tg it v) (fun _ s₂ => pt A env acc v (fun s₃ => codeAny (model G.prog G.w) A (.compLoop e depth it acc env) R s₃) E s₂) E s₁) E s) →
  codeAny (model G.prog G.w) A (.compLoop e depth it acc env) R s
/-- no test -/
def pt0 (G : Gc) (tg : Expr) (elt : Expr) : PTr := fun A env acc v K E s =>
  wpAny (model G.prog G.w) A (assign tg env v) (fun _ s₂ => wpAny (model G.prog G.w) A (eval elt env) (fun x s₄ => wpAny (model G.prog G.w) A (call (.builtin "list.append") [acc, x]) (fun _ s₅ => K s₅) E s₄) E s₂) E s
/-- one test -/
def pt1 (G : Gc) (tg c : Expr) (elt : Expr) : PTr := fun A env acc v K E s =>
  wpAny (model G.prog G.w) A (assign tg env v) (fun _ s₂ => wpAny (model G.prog G.w) A (isTrue c env (eval c env))
    (fun ok s₃ => if ok = true then wpAny (model G.prog G.w) A (eval elt env) (fun x s₄ => wpAny (model G.prog G.w) A (call (.builtin "list.append") [acc, x]) (fun _ s₅ => K s₅) E s₄) E s₃ else K s₃) E s₂) E s
theorem unroll0 {G : Gc} {tg iter elt : Expr} {scope : Scope} {pos : Pos} : Unroll G (.ListComp elt [⟨tg, iter, [], 0⟩] scope pos) 0 tg (pt0 G tg elt) := by
  intro A env it acc R s h
  refine codeAny_of_tree ?_
  show wpAny _ A ((compTurn (.ListComp elt [⟨tg, iter, [], 0⟩] scope pos) 0 it acc env).onRaise (fun x => do noteFrame x env; theTreesLotGoes x)) _ _ s
  refine wpAny_noted ?_
  rw [compTurn_list]
  refine wpAny_bind (wpAny_standAt (wpAny_bind (wpAny_mono (h _) (fun r s₁ h₁ => ?_) fun _ _ h' => h')))
  cases r with
  | none => exact wpAny_pure h₁
  | some v =>
    refine wpAny_bind (wpAny_mono h₁ (fun _ s₂ h₂ => ?_) fun _ _ h' => h')
    refine wpAny_bind (wpAny_mono h₂ (fun _ s₃ h₃ => wpAny_bind (wpAny_tests_nil ?_)) fun _ _ h' => h')
    exact wpAny_bind (wpAny_bind (wpAny_mono h₃ (fun x s₅ h₅ => wpAny_bind (wpAny_mono h₅ (fun _ s₆ h₆ => wpAny_pure (wpAny_pure ⟨rfl, h₆⟩)) fun _ _ h' => h')) fun _ _ h' => h'))
theorem unroll1 {G : Gc} {tg iter c elt : Expr} {scope : Scope} {pos : Pos} : Unroll G (.ListComp elt [⟨tg, iter, [c], 0⟩] scope pos) 0 tg (pt1 G tg c elt) := by
  intro A env it acc R s h
  refine codeAny_of_tree ?_
  show wpAny _ A ((compTurn (.ListComp elt [⟨tg, iter, [c], 0⟩] scope pos) 0 it acc env).onRaise (fun x => do noteFrame x env; theTreesLotGoes x)) _ _ s
  refine wpAny_noted ?_
  rw [compTurn_list]
  refine wpAny_bind (wpAny_standAt (wpAny_bind (wpAny_mono (h _) (fun r s₁ h₁ => ?_) fun _ _ h' => h')))
  cases r with
  | none => exact wpAny_pure h₁
  | some v =>
    refine wpAny_bind (wpAny_mono h₁ (fun _ s₂ h₂ => ?_) fun _ _ h' => h')
    refine wpAny_bind (wpAny_mono h₂ (fun _ s₃ h₃ => wpAny_bind (wpAny_tests_one (wpAny_mono h₃ (fun ok s₄ h₄ => ?_) fun _ _ h' => h'))) fun _ _ h' => h')
    cases ok with
    | false => exact wpAny_pure ⟨rfl, h₄⟩
    | true =>
      exact wpAny_bind (wpAny_bind (wpAny_mono h₄ (fun x s₅ h₅ => wpAny_bind (wpAny_mono h₅ (fun _ s₆ h₆ => wpAny_pure (wpAny_pure ⟨rfl, h₆⟩)) fun _ _ h' => h')) fun _ _ h' => h'))
/-- two clauses: the turn of the outer one runs the inner one -/
def ptOuter (G : Gc) (e : Expr) (tg i₁ : Expr) : PTr := fun A env acc v K E s =>
  wpAny (model G.prog G.w) A (assign tg env v) (fun _ s₂ => wpAny (model G.prog G.w) A (eval i₁ env) (fun x s₃ => wpAny (model G.prog G.w) A (pyIter x) (fun it s₄ =>
    codeAny (model G.prog G.w) A (.compStart e 1 it acc env) (fun r s' => match r with | .ok _ => K s' | .error _ => False) s₄) E s₃) E s₂) E s
theorem compTurn_outer (elt t₀ i₀ t₁ i₁ : Expr) (scope : Scope) (pos : Pos) (it acc : Value) (env : Env) :
    compTurn (.ListComp elt [⟨t₀, i₀, [], 0⟩, ⟨t₁, i₁, [], 0⟩] scope pos) 0 it acc env = (do
      standAt i₀.pos
      match ← pyNext it with
      | none => pure (.done .next)
      | some v =>
        letOwnedTupleGo t₀ it v
        assign t₀ env v
        let x ← eval i₁ env
        standAt i₁.pos
        let x ← foldedSetIterable i₁ env x
        let _ ← runOwn (.compStart (.ListComp elt [⟨t₀, i₀, [], 0⟩, ⟨t₁, i₁, [], 0⟩] scope pos) 1 (← holding [x] (pyIter x)) acc env) env
        again (.compLoop (.ListComp elt [⟨t₀, i₀, [], 0⟩, ⟨t₁, i₁, [], 0⟩] scope pos) 0 it acc env)) := by rfl
theorem compTurn_inner (elt t₀ i₀ t₁ i₁ : Expr) (scope : Scope) (pos : Pos) (it acc : Value) (env : Env) :
    compTurn (.ListComp elt [⟨t₀, i₀, [], 0⟩, ⟨t₁, i₁, [], 0⟩] scope pos) 1 it acc env = (do
      standAt i₁.pos
      match ← pyNext it with
      | none => pure (.done .next)
      | some v =>
        letOwnedTupleGo t₁ it v
        assign t₁ env v
        (do let _ ← call (.builtin "list.append") [acc, ← eval elt env])
        again (.compLoop (.ListComp elt [⟨t₀, i₀, [], 0⟩, ⟨t₁, i₁, [], 0⟩] scope pos) 1 it acc env)) := by rfl
theorem mark_none (A : Around) : A.mark none = A := rfl
theorem unrollOuter {G : Gc} {t₀ i₀ t₁ i₁ elt : Expr} {scope : Scope} {pos : Pos} (hs : ∀ env x, foldedSetIterable i₁ env x = pure x) :
    Unroll G (.ListComp elt [⟨t₀, i₀, [], 0⟩, ⟨t₁, i₁, [], 0⟩] scope pos) 0 t₀ (ptOuter G (.ListComp elt [⟨t₀, i₀, [], 0⟩, ⟨t₁, i₁, [], 0⟩] scope pos) t₀ i₁) := by
  intro A env it acc R s h
  refine codeAny_of_tree ?_
  show wpAny _ A ((compTurn (.ListComp elt [⟨t₀, i₀, [], 0⟩, ⟨t₁, i₁, [], 0⟩] scope pos) 0 it acc env).onRaise (fun x => do noteFrame x env; theTreesLotGoes x)) _ _ s
  refine wpAny_noted ?_
  rw [compTurn_outer]
  refine wpAny_bind (wpAny_standAt (wpAny_bind (wpAny_mono (h _) (fun r s₁ h₁ => ?_) fun _ _ h' => h')))
  cases r with
  | none => exact wpAny_pure h₁
  | some v =>
    refine wpAny_bind (wpAny_mono h₁ (fun _ s₂ h₂ => ?_) fun _ _ h' => h')
    refine wpAny_bind (wpAny_mono h₂ (fun _ s₃ h₃ => ?_) fun _ _ h' => h')
    refine wpAny_bind (wpAny_mono h₃ (fun x s₄ h₄ => wpAny_bind (wpAny_standAt (wpAny_bind (wpAny_of_eq (hs env x) ?_)))) fun _ _ h' => h')
    refine wpAny_bind (wpAny_holding (wpAny_mono h₄ (fun it' s₅ h₅ => ?_) fun _ _ h' => h'))
    refine wpAny_bind (wpAny_runOwn (codeAny_mono h₅ fun r s' hr => ?_))
    cases r with
    | ok f => exact wpAny_pure ⟨rfl, hr⟩
    | error x => exact hr.elim
theorem unrollInner {G : Gc} {t₀ i₀ t₁ i₁ elt : Expr} {scope : Scope} {pos : Pos} :
    Unroll G (.ListComp elt [⟨t₀, i₀, [], 0⟩, ⟨t₁, i₁, [], 0⟩] scope pos) 1 t₁ (pt0 G t₁ elt) := by
  intro A env it acc R s h
  refine codeAny_of_tree ?_
  show wpAny _ A ((compTurn (.ListComp elt [⟨t₀, i₀, [], 0⟩, ⟨t₁, i₁, [], 0⟩] scope pos) 1 it acc env).onRaise (fun x => do noteFrame x env; theTreesLotGoes x)) _ _ s
  refine wpAny_noted ?_
  rw [compTurn_inner]
  refine wpAny_bind (wpAny_standAt (wpAny_bind (wpAny_mono (h _) (fun r s₁ h₁ => ?_) fun _ _ h' => h')))
  cases r with
  | none => exact wpAny_pure h₁
  | some v =>
    refine wpAny_bind (wpAny_mono h₁ (fun _ s₂ h₂ => ?_) fun _ _ h' => h')
    refine wpAny_bind (wpAny_mono h₂ (fun _ s₃ h₃ => ?_) fun _ _ h' => h')
    exact wpAny_bind (wpAny_bind (wpAny_mono h₃ (fun x s₅ h₅ => wpAny_bind (wpAny_mono h₅ (fun _ s₆ h₆ => wpAny_pure (wpAny_pure ⟨rfl, h₆⟩)) fun _ _ h' => h')) fun _ _ h' => h'))
end M3
end
-- part C13
section
namespace M3
open PySem PySem.Calls PySem.Spec PyProof.Rows PySem.W
section
variable {G : Gc} {A : Around}
/-- the loop of a comprehension: J is what is known while the data ds are still to come -/
theorem loop_run {e : Expr} {depth : Nat} {tg : Expr} {pt : PTr} (hun : Unroll G e depth tg pt) {env : Env} {it acc : Value} {R : Result → Shared → Prop} {W F B : Addr → Prop} (J : List D → Zm → Shared → Prop)
    (hJU : ∀ ds U Z s Z' s', J ds Z s → UStep U Z s Z' s' → (∀ b o, U b → s.heap.get? b = some o → Odd o) → (∀ b, U b → F b) → J ds Z' s')
    (hW : ∀ ds Z s b o, J ds Z s → W b → s.heap.get? b = some o → ¬ Odd o) (hWB : ∀ b, B b → ¬ W b) (hFB : ∀ b, B b → ¬ F b)
    (hz : ∀ ds Z s, J ds Z s → Zin Z s.heap)
    (step : ∀ d ds Z s v K E, J (d :: ds) Z s → Holds Z d v → (∀ Z' s', UStep W Z s Z' s' → J ds Z' s' → K s') → pt A env acc v K E s)
    (fin : ∀ Z s, J [] Z s → R (.ok .next) s) :
    ∀ (ds : List D) (Z : Zm) (U : Addr → Prop) (h : Heap), Feeds G A tg it ds Z U B h → ∀ (s : Shared) (Z₁ : Zm), Compat U B h Z s Z₁ → (∀ b, U b → ∃ o, s.heap.get? b = some o ∧ Odd o) → (∀ b, U b → F b) → J ds Z₁ s →
      codeAny (model G.prog G.w) A (.compLoop e depth it acc env) R s
  | [], Z, U, h, fd, s, Z₁, C, hu, hf, hj => by
    refine hun A env it acc R s fun E => ?_
    refine fd s Z₁ _ E C fun s' us => ?_
    exact fin _ _ (hJU _ _ _ _ _ _ hj us (fun b o ub e => by obtain ⟨o', e', q⟩ := hu b ub; rw [e] at e'; cases e'; exact q) hf)
  | d :: ds, Z, U, h, fd, s, Z₁, C, hu, hf, hj => by
    refine hun A env it acc R s fun E => ?_
    have key := fd s Z₁ (fun v s₂ => pt A env acc v (fun s₃ => codeAny (model G.prog G.w) A (.compLoop e depth it acc env) R s₃) E s₂) E C (fun v Z₂ U₂ s₂ us hv fd₂ hsub hodd huz => ?_)
    · refine wpAny_mono key (fun r s₁ hr => ?_) fun _ _ x => x
      cases r with
      | none => exact hr.elim
      | some v => exact hr
    · have hodd' : ∀ b o, U b → s.heap.get? b = some o → Odd o := fun b o ub e => by obtain ⟨o', e', q⟩ := hu b ub; rw [e] at e'; cases e'; exact q
      have hj₂ := hJU _ _ _ _ _ _ hj us hodd' hf
      refine step d ds Z₂ s₂ v _ E hj₂ hv fun Z₃ s₃ ws hj₃ => ?_
      have nW : ∀ b o, U₂ b → s₂.heap.get? b = some o → ¬ W b := fun b o ub e wb => by
        obtain ⟨o', e', q⟩ := hodd b ub
        rw [e] at e'; cases e'
        exact hW _ _ _ b o hj₂ wb e q
      have up : ∀ b, U₂ b → ∃ o, s₂.heap.get? b = some o ∧ Odd o := hodd
      refine loop_run hun J hJU hW hWB hFB hz step fin ds Z₂ U₂ s₂.heap fd₂ s₃ Z₃ ⟨fun b o ub e => ws.keep b o (nW b o ub e) e, fun b o bb e => ws.keep b o (hWB b bb) e, ws.z, ws.zin, fun b ub => ?_⟩ (fun b ub => ?_) (fun b ub => hf b (hsub b ub)) hj₃
      · obtain ⟨o, e, _⟩ := up b ub
        exact ws.zn b o (nW b o ub e) e (huz b ub)
      · obtain ⟨o, e, q⟩ := up b ub
        exact ⟨o, ws.keep b o (nW b o ub e) e, q⟩
end
/-- what a turn may turn: the target's place and the new list -/
def Wr (env : Env) (tgs : List Str) (D : Addr) : Addr → Prop := fun b => Wt env tgs b ∨ b = D
section
variable (G : Gc)
/-- one turn: from the item's data to the data that the list gains -/
def Turn (n : Nat) (sc : Scope) (tgs : List Str) (ρ : Rho) (pt : PTr) (d : D) (outs : List D) : Prop :=
  ∀ (A : Around) (env : Env) (D : Addr) (Z : Zm) (s : Shared) (acc : List Value) (accd : List M3.D) (v : Value) (K : Shared → Prop) (E : Value → Shared → Prop), Room n A → env.scope = sc → Sees G env (onlyAt D) Z ρ s.heap → Holds Z d v →
    PL s.heap D acc.toArray → Z D = none → HoldsL Z accd acc → accd.length + outs.length ≤ 100000 →
    (∀ Z' s' acc', UStep (Wr env tgs D) Z s Z' s' → Sees G env (onlyAt D) Z' ρ s'.heap → PL s'.heap D acc'.toArray → Z' D = none → HoldsL Z' (accd ++ outs) acc' → K s') → pt A env (.ref D) v K E s
def Turns (n : Nat) (sc : Scope) (tgs : List Str) (ρ : Rho) (pt : PTr) : List D → List D → Prop
  | [], outs => outs = []
  | d :: ds, outs => ∃ o os, outs = o ++ os ∧ Turn G n sc tgs ρ pt d o ∧ Turns n sc tgs ρ pt ds os
end
section
variable {G : Gc} {n : Nat} {sc : Scope} {ρ : Rho} {tgs : List Str}
theorem Turns.map {pt : PTr} {f : D → List D} : ∀ {ds : List D}, (∀ d ∈ ds, Turn G n sc tgs ρ pt d (f d)) → Turns G n sc tgs ρ pt ds (ds.flatMap f)
  | [], _ => rfl
  | d :: ds, h => ⟨f d, ds.flatMap f, List.flatMap_cons, h d List.mem_cons_self, Turns.map fun x hx => h x (List.mem_cons_of_mem _ hx)⟩
theorem Turns.of {pt : PTr} {ds outs outs' : List D} (h : Turns G n sc tgs ρ pt ds outs) (e : outs = outs') : Turns G n sc tgs ρ pt ds outs' := e ▸ h
theorem Wr.notOdd {env g Z} {D : Addr} {s : Shared} {b : Addr} {o : Obj} {vs : Array Value} (S : Sees G env g Z ρ s.heap) (hl : PL s.heap D vs) (h : Wr env tgs D b) (e : s.heap.get? b = some o) : ¬ Odd o := by
  rcases h with h | rfl
  · exact Wt.notOdd S h e
  · exact IsList.notOdd hl e
/-- a value is put into the new list -/
theorem Sees.push {A : Around} {E : Value → Shared → Prop} {env Z} {D : Addr} {s : Shared} {acc : List Value} {accd : List M3.D} {x : Value} {d : M3.D} {K : Shared → Prop} (S : Sees G env (onlyAt D) Z ρ s.heap)
    (hl : PL s.heap D acc.toArray) (hz : Z D = none) (hh : HoldsL Z accd acc) (hx : Holds Z d x) (hsz : accd.length ≤ 100000)
    (h : ∀ s' acc', UStep (fun b => b = D) Z s Z s' → Sees G env (onlyAt D) Z ρ s'.heap → PL s'.heap D acc'.toArray → HoldsL Z (accd ++ [d]) acc' → K s') :
    wpAny (model G.prog G.w) A (call (.builtin "list.append") [.ref D, x]) (fun _ s' => K s') E s := by
  obtain ⟨k, ek⟩ := hl.isL
  refine append_at (hsz := by rw [List.size_toArray, hh.length]; exact Nat.le_trans hsz (by decide)) ek fun h' hs ek' => ?_
  have hl' := PL.of ek'
  have u : UStep (fun b => b = D) Z s Z { s with heap := h' } := ⟨⟨h', s.toks, rfl⟩, fun b o nb e => (hs.2 b nb).trans e, Zle.refl _, fun a o e => (hs.2 a fun q => by rw [q, hz] at e; cases e).trans (S.zin a o e), fun _ _ _ _ e => e⟩
  refine h _ (acc ++ [x]) u (S.atList u hl) (by simpa using hl') (hh.append (HoldsL.one hx))
theorem Turn.t0 {tg elt : Expr} {ρ' : Rho} {d e : D} (t : Tg G sc tgs ρ tg d ρ') (hsub : ∀ x sl, ρ.lookup x = some sl → ρ'.lookup x = some sl) (x : Ev G n sc ρ' elt e) : Turn G n sc tgs ρ (pt0 G tg elt) d [e] := by
  intro A env D Z s acc accd v K E rm he S hv hl hz hh hsz hK
  refine t A env (onlyAt D) Z s v _ E rm.hh he S hv fun s1 u1 S1 => ?_
  have hl1 : PL s1.heap D acc.toArray := by obtain ⟨o, e, r⟩ := id hl; exact ⟨o, u1.keep D o (fun q => Wt.list S q hl) e, r⟩
  refine x A env (onlyAt D) Z s1 _ E rm he S1 fun y Z2 s2 st2 hy => ?_
  obtain ⟨oD, eD⟩ := IsList.get hl1
  have hz2 := st2.zn D oD eD hz
  refine Sees.push (S1.step st2) (IsList.keeps hl1 st2.keep) hz2 (HoldsL.mono st2.z hh) hy (by simp at hsz; omega) fun s3 acc' u3 S3 hl3 hh3 => ?_
  refine hK Z2 s3 acc' ?_ (S3.weak hsub) hl3 hz2 hh3
  exact ((u1.mono (Y := Wr env tgs D) fun b h => .inl h).trans (st2.u (X := fun _ => False)) (fun b h => h.elim)).trans u3 fun b h => .inl (.inr h)
theorem Turn.t1 {tg c elt : Expr} {ρ' : Rho} {d : D} {b : Bool} {e : D} (t : Tg G sc tgs ρ tg d ρ') (hsub : ∀ x sl, ρ.lookup x = some sl → ρ'.lookup x = some sl) (hc : Tr G n sc ρ' c b) (x : b = true → Ev G n sc ρ' elt e) :
    Turn G n sc tgs ρ (pt1 G tg c elt) d (if b then [e] else []) := by
  intro A env D Z s acc accd v K E rm he S hv hl hz hh hsz hK
  refine t A env (onlyAt D) Z s v _ E rm.hh he S hv fun s1 u1 S1 => ?_
  have hl1 : PL s1.heap D acc.toArray := by obtain ⟨o, e, r⟩ := id hl; exact ⟨o, u1.keep D o (fun q => Wt.list S q hl) e, r⟩
  refine hc A env (onlyAt D) Z s1 _ E rm he S1 fun Z2 s2 st2 => ?_
  obtain ⟨oD, eD⟩ := IsList.get hl1
  have hz2 := st2.zn D oD eD hz
  have hl2 := IsList.keeps hl1 st2.keep
  cases b with
  | false =>
    refine hK Z2 s2 acc ?_ ((S1.step st2).weak hsub) hl2 hz2 (by simpa using HoldsL.mono st2.z hh)
    exact (u1.mono (Y := Wr env tgs D) fun b h => .inl h).trans (st2.u (X := fun _ => False)) (fun b h => h.elim)
  | true =>
    refine x rfl A env (onlyAt D) Z2 s2 _ E rm he (S1.step st2) fun y Z3 s3 st3 hy => ?_
    obtain ⟨oD2, eD2⟩ := IsList.get hl2
    have hz3 := st3.zn D oD2 eD2 hz2
    refine Sees.push ((S1.step st2).step st3) (IsList.keeps hl2 st3.keep) hz3 (HoldsL.mono st3.z (HoldsL.mono st2.z hh)) hy (by simp at hsz; omega) fun s4 acc' u4 S4 hl4 hh4 => ?_
    refine hK Z3 s4 acc' ?_ (S4.weak hsub) hl4 hz3 hh4
    exact ((u1.mono (Y := Wr env tgs D) fun b h => .inl h).trans ((st2.trans st3).u (X := fun _ => False)) (fun b h => h.elim)).trans u4 fun b h => .inl (.inr h)
/-- what is known within a loop over Turns -/
def JT (G : Gc) (n : Nat) (sc : Scope) (tgs : List Str) (ρ : Rho) (pt : PTr) (env : Env) (D : Addr) (total : List M3.D) (X : Addr → Prop) (Zb : Zm) (sb : Shared) (ds : List M3.D) (Z : Zm) (s : Shared) : Prop :=
  UStep X Zb sb Z s ∧ Sees G env (onlyAt D) Z ρ s.heap ∧ ∃ acc accd outs, Turns G n sc tgs ρ pt ds outs ∧ accd ++ outs = total ∧ PL s.heap D acc.toArray ∧ Z D = none ∧ HoldsL Z accd acc
/-- a loop over Turns -/
theorem loop_turns {A : Around} {e : Expr} {depth : Nat} {tg : Expr} {pt : PTr} (hun : Unroll G e depth tg pt) {env : Env} {D : Addr} {it : Value} {R : Result → Shared → Prop} {total : List M3.D} {X B U : Addr → Prop} {Zb Z Z₁ : Zm} {sb s : Shared} {h : Heap} {ds : List M3.D}
    (rm : Room n A) (he : env.scope = sc) (hlen : total.length ≤ 100000)
    (hXW : ∀ b, Wr env tgs D b → X b ∨ sb.heap.get? b = none) (hXU : ∀ b, U b → X b ∨ sb.heap.get? b = none) (hWB : ∀ b, B b → ¬ Wr env tgs D b) (hUB : ∀ b, B b → ¬ U b)
    (fd : Feeds G A tg it ds Z U B h) (C : Compat U B h Z s Z₁) (hu : ∀ b, U b → ∃ o, s.heap.get? b = some o ∧ Odd o) (j : JT G n sc tgs ρ pt env D total X Zb sb ds Z₁ s)
    (fin : ∀ Z' s', UStep X Zb sb Z' s' → Sees G env (onlyAt D) Z' ρ s'.heap → (∃ acc, PL s'.heap D acc.toArray ∧ Z' D = none ∧ HoldsL Z' total acc) → R (.ok .next) s') :
    codeAny (model G.prog G.w) A (.compLoop e depth it (.ref D) env) R s := by
  refine loop_run hun (W := Wr env tgs D) (F := U) (B := B) (JT G n sc tgs ρ pt env D total X Zb sb) ?_ ?_ hWB hUB ?_ ?_ ?_ ds Z U h fd s Z₁ C hu (fun _ q => q) j
  · rintro ds U' Z s Z' s' ⟨u, S, acc, accd, outs, ht, htot, hl, hz, hh⟩ us hodd hF
    have nU : ∀ o, s.heap.get? D = some o → ¬ U' D := fun o e q => IsList.notOdd hl e (hodd D o q e)
    refine ⟨u.trans us fun b hb => hXU b (hF b hb), S.iter us hodd, acc, accd, outs, ht, htot, ?_, ?_, HoldsL.mono us.z hh⟩
    · obtain ⟨o, e, r⟩ := hl; exact ⟨o, us.keep D o (nU o e) e, r⟩
    · obtain ⟨o, e⟩ := IsList.get hl; exact us.zn D o (nU o e) e hz
  · rintro ds Z s b o ⟨u, S, acc, accd, outs, ht, htot, hl, hz, hh⟩ wb e
    exact Wr.notOdd S hl wb e
  · rintro ds Z s ⟨u, S, _⟩; exact S.zin
  · rintro d ds Z s v K E ⟨u, S, acc, accd, outs, ht, htot, hl, hz, hh⟩ hv hK
    obtain ⟨o, os, rfl, t, ts⟩ := ht
    refine t A env D Z s acc accd v K E rm he S hv hl hz hh ?_ fun Z' s' acc' us S' hl' hz' hh' => ?_
    · have := congrArg List.length htot
      simp at this; omega
    · exact hK Z' s' us ⟨u.trans us hXW, S', acc', accd ++ o, os, ts, by rw [List.append_assoc]; exact htot, hl', hz', hh'⟩
  · rintro Z s ⟨u, S, acc, accd, outs, ht, htot, hl, hz, hh⟩
    have : outs = [] := ht
    subst this
    rw [List.append_nil] at htot
    subst htot
    exact fin Z s u S ⟨acc, hl, hz, hh⟩
end
end M3
end
-- part C14
section
namespace M3
open PySem PySem.Calls PySem.Spec PyProof.Rows PySem.W
section
variable {G : Gc} {n : Nat} {sc : Scope} {ρ : Rho} {tgs : List Str}
theorem compStart_inner {prog : Program} {w : World} {A : Around} {R : Result → Shared → Prop} {s : Shared} {elt t₀ i₀ t₁ i₁ scope pos it acc env}
    (h0 : codeAny (model prog w) A (.compLoop (.ListComp elt [⟨t₀, i₀, [], 0⟩, ⟨t₁, i₁, [], 0⟩] scope pos) 1 it acc env) R s)
    (h : ∀ E, wpAny (model prog w) A (pyIter it) (fun it' s' => codeAny (model prog w) A (.compLoop (.ListComp elt [⟨t₀, i₀, [], 0⟩, ⟨t₁, i₁, [], 0⟩] scope pos) 1 it' acc env) R s') E s) :
    codeAny (model prog w) A (.compStart (.ListComp elt [⟨t₀, i₀, [], 0⟩, ⟨t₁, i₁, [], 0⟩] scope pos) 1 it acc env) R s := by
  refine codeAny_of_tree ?_
  show wpAny _ _ ((compStart (.ListComp elt [⟨t₀, i₀, [], 0⟩, ⟨t₁, i₁, [], 0⟩] scope pos) 1 it acc env).onRaise (fun x => do noteFrame x env; standAt theWindowsPlace)) _ _ s
  refine wpAny_notedAt ?_
  unfold compStart
  show wpAny _ _ (ask >>= _) _ _ s
  refine wpAny_bind (wpAny_askSetting (wpAny_ite ?_))
  split
  · first
      | exact wpAny_bind (wpAny_pure (wpAny_pure (And.intro rfl h0)))
      | exact wpAny_pure (And.intro rfl h0)
  · first
      | exact wpAny_bind (wpAny_rule (wpAny_bind (wpAny_standAt (wpAny_bind (wpAny_mono (h _) (fun it' s' h' => wpAny_pure (And.intro rfl h')) fun _ _ x => x)))))
      | (refine wpAny_bind (wpAny_rule ?_); show wpAny _ _ (standAt i₁.pos >>= _) _ _ s; exact wpAny_bind (wpAny_standAt (wpAny_bind (wpAny_mono (h _) (fun it' s' h' => wpAny_pure (And.intro rfl h')) fun _ _ x => x))))
theorem Turn.outer {elt t₀ i₀ t₁ i₁ : Expr} {scope : Scope} {pos : Pos} {ρ₁ : Rho} {d : D} {ds outs : List D} (t : Tg G sc tgs ρ t₀ d ρ₁) (hsub : ∀ x sl, ρ.lookup x = some sl → ρ₁.lookup x = some sl)
    (i : It G n sc ρ₁ t₁ i₁ ds false) (ts : Turns G n sc tgs ρ₁ (pt0 G t₁ elt) ds outs) : Turn G n sc tgs ρ (ptOuter G (.ListComp elt [⟨t₀, i₀, [], 0⟩, ⟨t₁, i₁, [], 0⟩] scope pos) t₀ i₁) d outs := by
  intro A env D Z s acc accd v K E rm he S hv hl hz hh hsz hK
  refine t A env (onlyAt D) Z s v _ E rm.hh he S hv fun s1 u1 S1 => ?_
  have hl1 : PL s1.heap D acc.toArray := by obtain ⟨o, e, r⟩ := id hl; exact ⟨o, u1.keep D o (fun q => Wt.list S q hl) e, r⟩
  refine i A env (onlyAt D) Z s1 _ E rm he S1 fun it Z2 s2 U B st2 fd hU hB hB' hiter => ?_
  obtain ⟨oD, eD⟩ := IsList.get hl1
  have hz2 := st2.zn D oD eD hz
  have huz : ∀ b, U b → Z2 b = none := fun b ub => (hU b ub).1.2
  have C : Compat U B s2.heap Z2 s2 Z2 := ⟨fun _ _ _ e => e, fun _ _ _ e => e, Zle.refl _, st2.zin, huz⟩
  have S2 := S1.step st2
  have lp : codeAny (model G.prog G.w) A (.compLoop (.ListComp elt [⟨t₀, i₀, [], 0⟩, ⟨t₁, i₁, [], 0⟩] scope pos) 1 it (.ref D) env) (fun r s' => match r with | .ok _ => K s' | .error _ => False) s2 := by
    refine loop_turns (unrollInner (t₀ := t₀) (i₀ := i₀) (t₁ := t₁) (i₁ := i₁) (elt := elt) (scope := scope) (pos := pos)) (X := Wr env tgs D) (Zb := Z) (sb := s1) (total := accd ++ outs) rm he (by simpa using hsz)
      (fun b h => .inl h) (fun b h => .inr (hU b h).1.1) (fun b bb => (hB rfl b bb).elim) (fun b bb => (hB rfl b bb).elim) fd C (fun b ub => (hU b ub).2)
      ⟨st2.u, S2, acc, accd, outs, ts, rfl, IsList.keeps hl1 st2.keep, hz2, HoldsL.mono st2.z hh⟩ fun Z3 s3 u3 S3 ⟨acc3, hl3, hz3, hh3⟩ => ?_
    exact hK Z3 s3 acc3 ((u1.mono (Y := Wr env tgs D) fun b h => .inl h).trans u3 fun b h => .inl h) (S3.weak hsub) hl3 hz3 hh3
  exact compStart_inner lp fun E => hiter s2 Z2 _ E C lp
end
end M3
end
-- part C15
section
namespace M3
open PySem PySem.Calls PySem.Spec PyProof.Rows PySem.W
theorem cellsFrom_app : ∀ (names : List (Str × NameKind)) (n : Nat) (acc : List (Str × Addr)), cellsFrom n names acc = cellsFrom n names [] ++ acc
  | [], _, _ => rfl
  | (x, k) :: r, n, acc => by
    unfold cellsFrom
    split
    · rw [cellsFrom_app r (n + 1) ((x, n) :: acc), cellsFrom_app r (n + 1) [(x, n)]]; simp
    · exact cellsFrom_app r n acc
theorem cellsFrom_mem : ∀ (names : List (Str × NameKind)) (n : Nat) (x : Str) (c : Addr), (x, c) ∈ cellsFrom n names [] → (x, NameKind.cell) ∈ names
  | [], _, _, _, h => by cases h
  | (y, k) :: r, n, x, c, h => by
    unfold cellsFrom at h
    split at h
    · rename_i hk
      rw [cellsFrom_app] at h
      rcases List.mem_append.mp h with h | h
      · exact List.mem_cons_of_mem _ (cellsFrom_mem r (n + 1) x c h)
      · have := List.mem_singleton.mp h
        cases this
        have : k = .cell := beq_iff_eq.mp hk
        rw [this]; exact List.mem_cons_self
    · exact List.mem_cons_of_mem _ (cellsFrom_mem r n x c h)
/-- the cells that a comprehension takes along -/
def clOf (cells : List (Str × Addr)) : List (Str × NameKind) → List (Str × Addr) → List (Str × Addr)
  | [], acc => acc
  | (x, k) :: r, acc => if k == .free then clOf cells r ((x, (cells.lookup x).getD 0) :: acc) else clOf cells r acc
theorem clOf_mem {cells : List (Str × Addr)} : ∀ (names : List (Str × NameKind)) (acc : List (Str × Addr)) (x : Str) (c : Addr), (x, c) ∈ clOf cells names acc → (x, c) ∈ acc ∨ ((x, NameKind.free) ∈ names ∧ c = (cells.lookup x).getD 0)
  | [], _, _, _, h => .inl h
  | (y, k) :: r, acc, x, c, h => by
    unfold clOf at h
    split at h
    · rename_i hk
      rcases clOf_mem r _ x c h with h | ⟨h, e⟩
      · rcases List.mem_cons.mp h with h | h
        · cases h
          have : k = .free := beq_iff_eq.mp hk
          rw [this]
          exact .inr ⟨List.mem_cons_self, rfl⟩
        · exact .inl h
      · exact .inr ⟨List.mem_cons_of_mem _ h, e⟩
    · rcases clOf_mem r _ x c h with h | ⟨h, e⟩
      · exact .inl h
      · exact .inr ⟨List.mem_cons_of_mem _ h, e⟩
theorem clOf_has {cells : List (Str × Addr)} : ∀ (names : List (Str × NameKind)) (acc : List (Str × Addr)) (x : Str), (x, NameKind.free) ∈ names ∨ (∃ c, (x, c) ∈ acc) → ∃ c, (x, c) ∈ clOf cells names acc
  | [], _, _, h => by
    rcases h with h | h
    · cases h
    · exact h
  | (y, k) :: r, acc, x, h => by
    unfold clOf
    split
    · rename_i hk
      refine clOf_has r _ x ?_
      rcases h with h | ⟨c, h⟩
      · rcases List.mem_cons.mp h with h | h
        · cases h; exact .inr ⟨_, List.mem_cons_self⟩
        · exact .inl h
      · exact .inr ⟨c, List.mem_cons_of_mem _ h⟩
    · rename_i hk
      refine clOf_has r _ x ?_
      rcases h with h | h
      · rcases List.mem_cons.mp h with h | h
        · cases h; exact absurd rfl hk
        · exact .inl h
      · exact .inr h
theorem lookup_isSome {l : List (Str × Addr)} {x : Str} {c : Addr} (h : (x, c) ∈ l) : ∃ c', l.lookup x = some c' := by
  induction l with
  | nil => cases h
  | cons p r ih =>
    obtain ⟨y, d⟩ := p
    rw [List.lookup_cons]
    cases q : x == y with
    | true => exact ⟨d, rfl⟩
    | false =>
      rcases List.mem_cons.mp h with h | h
      · cases h; simp at q
      · exact ih h
theorem closureFor_eq {scope : Scope} {env : Env} (h : ∀ x, (x, NameKind.free) ∈ scope.names → (env.cells.lookup x).isSome = true) : closureFor scope env = pure (clOf env.cells scope.names []) := by
  simp only [closureFor]
  generalize scope.names = names at h
  suffices ∀ (names : List (Str × NameKind)) (acc : List (Str × Addr)), (∀ x, (x, NameKind.free) ∈ names → (env.cells.lookup x).isSome = true) →
      (forIn names acc fun x r => do
        let cs := r
        if (x.2 == NameKind.free) = true then do
          let a ← cellOf env x.1
          pure (ForInStep.yield ((x.1, a) :: cs))
        else pure (ForInStep.yield cs)) = (pure (clOf env.cells names acc) : Sem _) by
    have k := this names [] h
    simpa using k
  intro names
  induction names with
  | nil => intro acc _; rfl
  | cons p r ih =>
    intro acc hf
    obtain ⟨x, k⟩ := p
    rw [List.forIn_cons]
    unfold clOf
    by_cases hk : (k == NameKind.free) = true
    · have hk' : k = .free := beq_iff_eq.mp hk
      subst hk'
      obtain ⟨c, hc⟩ := Option.isSome_iff_exists.mp (hf x List.mem_cons_self)
      have e : cellOf env x = pure c := by unfold cellOf; rw [hc]
      simp only [hk, if_true, e, hc, Option.getD_some]
      exact ih _ fun y hy => hf y (List.mem_cons_of_mem _ hy)
    · simp only [hk, if_false]
      exact ih _ fun y hy => hf y (List.mem_cons_of_mem _ hy)
/-- the frame of a comprehension -/
def compEnvOf (scope : Scope) (env : Env) (cl : List (Str × Addr)) (C : Addr) : Env :=
  { scope := relabel scope env, locals := C, globals := env.globals, cells := cellsFrom (C + 1) scope.names cl, qual := env.qual, func := none, code := env.code, frame := env.frame, builtins := env.builtins }
theorem newFunctionEnv_comp {M : Model} {A : Around} {E : Value → Shared → Prop} {s : Shared} {scope : Scope} {env : Env} {cl : List (Str × Addr)} {Q : Env → Shared → Prop}
    (h : ∀ cenv, { cenv with scope := relabel scope env } = compEnvOf scope env cl s.heap.objs.size → Q cenv { s with heap := pushCells (s.heap.push { cls := .type "dict", data := .dict #[] }) scope.names }) :
    wpAny M A (newFunctionEnv scope env.globals cl [] env.qual none .none (some env)) Q E s := by
  simp only [newFunctionEnv, Option.isSome_some, if_true]
  refine wpAny_bind (wpAny_alloc ?_)
  refine wpAny_bind (wpAny_layCells _ (fun name kind cells => by cases hkc : kind == NameKind.cell <;> simp [hkc]) _ _ _ _ ?_)
  rw [show ({ s with heap := s.heap.push { cls := .type "dict", data := .dict #[] } } : Shared).heap.objs.size = s.heap.objs.size + 1 from Heap.size_push ..]
  simp only [List.forIn_nil]
  exact wpAny_bind (wpAny_pure (wpAny_pure (h _ rfl)))
theorem relabel_lookup {scope : Scope} {env : Env} (x : Str) : (relabel scope env).names.lookup x = (scope.names.lookup x).map fun k => if (k == NameKind.free && env.scope.kind == .function && env.kindOf x == some .cell) then .cell else k := by
  show List.lookup x (scope.names.map fun (n, k) => if (k == NameKind.free && env.scope.kind == .function && env.kindOf n == some .cell) then (n, NameKind.cell) else (n, k)) = _
  generalize scope.names = names
  induction names with
  | nil => rfl
  | cons p r ih =>
    obtain ⟨y, k⟩ := p
    rw [List.map_cons]
    have e : (match (y, k) with | (n, k) => if (k == NameKind.free && env.scope.kind == .function && env.kindOf n == some .cell) then (n, NameKind.cell) else (n, k)) =
        (y, if (k == NameKind.free && env.scope.kind == .function && env.kindOf y == some .cell) then NameKind.cell else k) := by
      dsimp only; split <;> rfl
    rw [e, List.lookup_cons, List.lookup_cons]
    cases q : x == y with
    | true =>
      have : x = y := by simpa using q
      subst this; rfl
    | false => exact ih
/-- what a comprehension takes along -/
def captOf (scope : Scope) (ρ : Rho) : Rho := ρ.filter fun p => scope.names.lookup p.1 == some .free
theorem captOf_lookup {scope : Scope} {ρ : Rho} {x : Str} {sl : Slot} (h : (captOf scope ρ).lookup x = some sl) : ρ.lookup x = some sl ∧ scope.names.lookup x = some .free := by
  induction ρ with
  | nil => cases h
  | cons p r ih =>
    obtain ⟨y, t⟩ := p
    unfold captOf at h
    rw [List.filter_cons] at h
    rw [List.lookup_cons]
    by_cases q : (scope.names.lookup y == some .free) = true
    · simp only [q, if_true, List.lookup_cons] at h
      cases e : x == y with
      | true =>
        rw [e] at h
        have : x = y := by simpa using e
        subst this
        exact ⟨h, beq_iff_eq.mp q⟩
      | false => rw [e] at h; exact ih h
    · simp only [q, if_false] at h
      have hr := ih h
      cases e : x == y with
      | true =>
        have : x = y := by simpa using e
        subst this
        rw [hr.2] at q; exact absurd rfl q
      | false => exact hr
end M3
end
-- part C16
section
namespace M3
open PySem PySem.Calls PySem.Spec PyProof.Rows PySem.W
def relab (scope sc : Scope) : Scope :=
  { scope with names := scope.names.map fun (n, k) => if (k == .free && sc.kind == .function && sc.names.lookup n == some .cell) then (n, .cell) else (n, k) }
theorem relab_eq {scope : Scope} {env : Env} : relabel scope env = relab scope env.scope := rfl
def compOk (sc scope : Scope) (tgs : List Str) : Bool :=
  (match scope.kind with | .function => true | _ => false) && (scope.names.map (·.1)).Nodup && (scope.names.all fun p => p.2 != .free || sc.names.lookup p.1 == some .cell) && (tgs.all fun x => scope.names.lookup x != some .free)
theorem lookup_mem' {l : List (Str × NameKind)} {x : Str} {k : NameKind} (h : l.lookup x = some k) : (x, k) ∈ l := mem_of_lookup h
theorem lookup_nodup {l : List (Str × NameKind)} (h : (l.map (·.1)).Nodup) {x : Str} {k : NameKind} (m : (x, k) ∈ l) : l.lookup x = some k := by
  induction l with
  | nil => cases m
  | cons p r ih =>
    obtain ⟨y, j⟩ := p
    rw [List.map_cons, List.nodup_cons] at h
    rw [List.lookup_cons]
    rcases List.mem_cons.mp m with q | q
    · cases q; simp
    · have : x ≠ y := fun e => h.1 (by rw [← e]; exact List.mem_map.mpr ⟨_, q, rfl⟩)
      have : (x == y) = false := by simpa using this
      rw [this]
      exact ih h.2 q
section
variable {G : Gc} {n : Nat} {sc : Scope} {ρ : Rho} {tgs : List Str}
structure CompIn (sc scope : Scope) (tgs : List Str) : Prop where
  kind : scope.kind = .function
  nd : (scope.names.map (·.1)).Nodup
  free : ∀ x, (x, NameKind.free) ∈ scope.names → sc.names.lookup x = some .cell
  tg : ∀ x ∈ tgs, scope.names.lookup x ≠ some .free
theorem compOk.at_ {scope : Scope} (h : compOk sc scope tgs = true) : CompIn sc scope tgs := by
  unfold compOk at h
  simp only [Bool.and_eq_true] at h
  obtain ⟨⟨⟨h1, h2⟩, h3⟩, h4⟩ := h
  refine ⟨?_, by simpa using h2, fun x hx => ?_, fun x hx => ?_⟩
  · revert h1; cases scope.kind <;> simp
  · have := List.all_eq_true.mp h3 _ hx
    simpa using this
  · have := List.all_eq_true.mp h4 _ hx
    simpa using this
/-- the comprehension's frame at its start -/
theorem Sees.comp {env g Z₀ Z} {s₀ s₄ : Shared} {h₃ : Heap} {scope : Scope} {D C : Addr} (S : Sees G env g Z₀ ρ s₀.heap) (he : env.scope = sc) (ok : CompIn sc scope tgs) (st : PStep Z₀ s₀ Z s₄)
    (hC : C = h₃.objs.size) (h0 : ∀ b o, s₀.heap.get? b = some o → h₃.get? b = some o) (hzC : ∀ b, h₃.objs.size ≤ b → Z b = none) (e4 : s₄.heap = pushCells (h₃.push { cls := .type "dict", data := .dict #[] }) scope.names) (hD : s₀.heap.get? D = none) :
    Sees G (compEnvOf scope env (clOf env.cells scope.names []) C) (onlyAt D) Z (captOf scope ρ) s₄.heap ∧
    (∀ b, Wt (compEnvOf scope env (clOf env.cells scope.names []) C) tgs b → s₀.heap.get? b = none) ∧ s₄.heap.Ns C (fun _ => none) := by
  subst hC
  have sz : (h₃.push { cls := .type "dict", data := .dict #[] }).objs.size = h₃.objs.size + 1 := Heap.size_push ..
  have CO : CellsOk s₄.heap (h₃.objs.size + 1) (cellsFrom (h₃.objs.size + 1) scope.names []) := by
    have := cellsFrom_ok scope.names (h₃.push { cls := .type "dict", data := .dict #[] }) (h₃.objs.size + 1) [] ⟨fun _ _ hm => (nomatch hm), List.Pairwise.nil⟩ (by rw [sz]; exact Nat.le_refl _)
    rw [sz] at this
    rw [e4]; exact this
  have hfresh : ∀ b, h₃.objs.size ≤ b → s₀.heap.get? b = none := fun b hb => by
    cases q : s₀.heap.get? b with
    | none => rfl
    | some o => exact absurd (Heap.lt_size (h0 b o q)) (Nat.not_lt.mpr hb)
  have hns : s₄.heap.Ns h₃.objs.size (fun _ => none) := by
    rw [e4]; exact (Heap.Ns.new h₃ (.type "dict")).keeps (pushCells_keeps _ _)
  have ekind : ∀ x, Env.kindOf (compEnvOf scope env (clOf env.cells scope.names []) h₃.objs.size) x = (scope.names.lookup x).map fun k => if (k == NameKind.free && env.scope.kind == .function && env.kindOf x == some .cell) then .cell else k := fun x => relabel_lookup x
  have ecells : (compEnvOf scope env (clOf env.cells scope.names []) h₃.objs.size).cells = cellsFrom (h₃.objs.size + 1) scope.names [] ++ clOf env.cells scope.names [] := cellsFrom_app _ _ _
  -- the cells of its own
  have own : ∀ x, scope.names.lookup x = some .cell → ∃ c, (compEnvOf scope env (clOf env.cells scope.names []) h₃.objs.size).cells.lookup x = some c ∧ (x, c) ∈ cellsFrom (h₃.objs.size + 1) scope.names [] := fun x hx => by
    obtain ⟨c, hc⟩ := Option.isSome_iff_exists.mp (cellsFrom_some (x := x) scope.names (h₃.objs.size + 1) [] (.inl hx))
    exact ⟨c, by rw [ecells, List.lookup_append, hc]; rfl, lookup_mem hc⟩
  -- the cells that it takes along
  have capt : ∀ x, scope.names.lookup x = some .free → ∃ c v, (compEnvOf scope env (clOf env.cells scope.names []) h₃.objs.size).cells.lookup x = some c ∧ env.cells.lookup x = some c ∧ env.kindOf x = some .cell ∧ s₀.heap.IsCell c v ∧ Z₀ c = none := fun x hx => by
    have hk : env.kindOf x = some .cell := by unfold Env.kindOf; rw [he]; exact ok.free x (lookup_mem' hx)
    obtain ⟨c, v, e, hv, hz⟩ := S.cells x (.inl hk)
    refine ⟨c, v, ?_, e, hk, hv, hz⟩
    have n1 : (cellsFrom (h₃.objs.size + 1) scope.names []).lookup x = none := by
      cases q : (cellsFrom (h₃.objs.size + 1) scope.names []).lookup x with
      | none => rfl
      | some c' =>
        have := lookup_nodup ok.nd (cellsFrom_mem _ _ _ _ (lookup_mem q))
        rw [hx] at this; cases this
    rw [ecells, List.lookup_append, n1, Option.none_or]
    obtain ⟨c', hc'⟩ := clOf_has (cells := env.cells) scope.names [] x (.inl (lookup_mem' hx))
    obtain ⟨c2, hc2⟩ := lookup_isSome hc'
    rcases clOf_mem _ _ _ _ (lookup_mem hc2) with q | ⟨_, q⟩
    · cases q
    · rw [hc2, q, e]; rfl
  have kinds : ∀ x, (Env.kindOf (compEnvOf scope env (clOf env.cells scope.names []) h₃.objs.size) x = some .cell ∨ Env.kindOf (compEnvOf scope env (clOf env.cells scope.names []) h₃.objs.size) x = some .free) → scope.names.lookup x = some .cell ∨ scope.names.lookup x = some .free := fun x h => by
    rw [ekind] at h
    cases q : scope.names.lookup x with
    | none => rw [q] at h; rcases h with h | h <;> cases h
    | some k =>
      rw [q] at h
      simp only [Option.map_some, Option.some.injEq] at h
      cases k <;> simp_all
  have fresh : ∀ x c, (x, c) ∈ cellsFrom (h₃.objs.size + 1) scope.names [] → h₃.objs.size ≤ c := fun x c hc => Nat.le_of_succ_le (CO.empty x c hc).2
  refine ⟨⟨S.z0.mono st.z, st.zin, ok.kind, S.eg, S.eb, ⟨_, hns⟩, hzC _ (Nat.le_refl _), fun x hk => ?_, fun x y c hx hy e1 e2 => ?_, ?_⟩, fun b hb => ?_, hns⟩
  · rcases kinds x hk with q | q
    · obtain ⟨c, e, hm⟩ := own x q
      exact ⟨c, _, e, (CO.empty x c hm).1, hzC _ (fresh x c hm)⟩
    · obtain ⟨c, v, e, _, _, hv, hz⟩ := capt x q
      obtain ⟨o, eo⟩ := IsCell.get hv
      exact ⟨c, v, e, hv.keeps st.keep, st.zn c o eo hz⟩
  · rcases kinds x hx with q | q <;> rcases kinds y hy with q' | q'
    · obtain ⟨c1, f1, m1⟩ := own x q
      obtain ⟨c2, f2, m2⟩ := own y q'
      rw [e1] at f1; cases f1
      rw [e2] at f2; cases f2
      exact name_of_addr CO.apart m1 m2
    · obtain ⟨c1, f1, m1⟩ := own x q
      obtain ⟨c2, v, f2, _, _, hv, _⟩ := capt y q'
      rw [e1] at f1; cases f1
      rw [e2] at f2; cases f2
      obtain ⟨o, eo⟩ := IsCell.get hv
      rw [hfresh c (fresh x c m1)] at eo; cases eo
    · obtain ⟨c1, f1, m1⟩ := own y q'
      obtain ⟨c2, v, f2, _, _, hv, _⟩ := capt x q
      rw [e2] at f1; cases f1
      rw [e1] at f2; cases f2
      obtain ⟨o, eo⟩ := IsCell.get hv
      rw [hfresh c (fresh y c m1)] at eo; cases eo
    · obtain ⟨c1, v1, f1, g1, k1, _⟩ := capt x q
      obtain ⟨c2, v2, f2, g2, k2, _⟩ := capt y q'
      rw [e1] at f1; cases f1
      rw [e2] at f2; cases f2
      exact S.cinj x y c (.inl k1) (.inl k2) g1 g2
  · obtain ⟨pl, V⟩ := S.vars
    refine ⟨fun x => if ((captOf scope ρ).lookup x).isSome then pl x else none, fun x sl e => ?_, fun x e => by simp [e], fun x y a e1 e2 => ?_, fun x a e => ?_⟩
    · obtain ⟨e', hk⟩ := captOf_lookup e
      obtain ⟨v, hv, hs⟩ := V.at_ x sl e'
      refine ⟨v, ?_, by rw [e]; exact hs.step st.keep st.z st.zn⟩
      obtain ⟨c, w, f1, f2, k1, _⟩ := capt x hk
      rcases hv with ⟨kl, _⟩ | ⟨kc, c', f3, hv⟩
      · rw [k1] at kl; cases kl
      · rw [f2] at f3; cases f3
        refine .inr ⟨.inl ?_, c, f1, hv.keeps st.keep⟩
        rw [ekind, hk]
        simp [S.ek, k1]
    · split at e1
      · split at e2
        · exact V.inj x y a e1 e2
        · cases e2
      · cases e1
    · split at e
      · refine onlyAt_none fun q => ?_
        subst q
        obtain ⟨_, vs, hl⟩ := V.list e
        obtain ⟨o, eo⟩ := IsList.get hl
        rw [hD] at eo; cases eo
      · cases e
  · rcases hb with rfl | ⟨x, hx, hk, hc⟩
    · exact hfresh _ (Nat.le_refl _)
    · rcases kinds x (.inl hk) with q | q
      · obtain ⟨c, f, m⟩ := own x q
        rw [hc] at f; cases f
        exact hfresh _ (fresh x b m)
      · exact absurd q (ok.tg x hx)
end
end M3
end
-- part C17
section
namespace M3
open PySem PySem.Calls PySem.Spec PyProof.Rows PySem.W
section
variable {G : Gc} {n : Nat} {sc : Scope} {ρ : Rho} {tgs : List Str}
theorem le_none {h : Heap} {b : Addr} (hb : h.objs.size ≤ b) : h.get? b = none := by
  cases q : h.get? b with
  | none => rfl
  | some o => exact absurd (Heap.lt_size q) (Nat.not_lt.mpr hb)
theorem comp_core {elt tg iter : Expr} {ifs : List Expr} {rest : List Comprehension} {scope : Scope} {pos p : Pos} {pt : PTr} {own : Bool} {ds outs : List D} {use : Option (Value → Sem Unit)} {A : Around} {E : Value → Shared → Prop} {env : Env} {g : Heap} {Z : Zm} {s : Shared} {Q : Value → Shared → Prop}
    (ok : CompIn sc scope tgs) (hun : Unroll G (.ListComp elt (⟨tg, iter, ifs, 0⟩ :: rest) scope pos) 0 tg pt) (hs : ∀ x, foldedSetIterable iter env x = pure x) (hit : It G n sc ρ tg iter ds own)
    (ts : Turns G n (relab scope sc) tgs (captOf scope ρ) pt ds outs) (hlen : outs.length ≤ 100000)
    (rm : Room n A) (he : env.scope = sc) (S : Sees G env g Z ρ s.heap)
    (fin : ∀ a vs C m Z' s', PStep Z s Z' s' → s.heap.get? a = none → Z' a = none → PL s'.heap a vs.toArray → HoldsL Z' outs vs → s.heap.get? C = none → s'.heap.Ns C m → Z' C = none →
      compPost (model G.prog G.w) A E use Q (.ref a) C (.ok .next) s') :
    wpAny (model G.prog G.w) A (comprehension (.ListComp elt (⟨tg, iter, ifs, 0⟩ :: rest) scope pos) scope env p (newList []) false (eval iter env) use) Q E s := by
  have hclos : closureFor scope env = pure (clOf env.cells scope.names []) := closureFor_eq fun x hx => by
    have hk : env.kindOf x = some .cell := by unfold Env.kindOf; rw [he]; exact ok.free x hx
    obtain ⟨c, v, e, _⟩ := S.cells x (.inl hk)
    rw [e]; rfl
  refine wpAny_comprehension_free (g := ⟨tg, iter, ifs, 0⟩) (gs := rest) rfl hs hclos ok.kind (fun x hx hl => lookup_nodup ok.nd (by obtain ⟨a, b⟩ := x; dsimp only at hl; subst hl; exact hx)) ?_
  refine hit A env g Z s _ E rm he S fun it Z2 s2 U B st2 fd hU hB hB' hiter => ?_
  refine wpAny_newList ?_ (by decide)
  refine newFunctionEnv_comp fun cenv hcenv => ?_
  have hcl : cenv.locals = s2.heap.objs.size + 1 := by
    have := congrArg Env.locals hcenv
    simpa [compEnvOf] using this
  rw [hcenv]
  dsimp only
  let h3 : Heap := s2.heap.push { cls := .type "list", data := .seq ([] : List Value).toArray }
  have e3 : h3.objs.size = s2.heap.objs.size + 1 := Heap.size_push ..
  let s4 : Shared := { s2 with heap := pushCells (h3.push { cls := .type "dict", data := .dict #[] }) scope.names }
  have k23 : ∀ b o, s2.heap.get? b = some o → h3.get? b = some o := fun b o e => Heap.get?_push_of_some _ e
  have k34 : ∀ b o, h3.get? b = some o → s4.heap.get? b = some o := fun b o e => pushCells_keeps _ _ b o (Heap.get?_push_of_some _ e)
  have st4 : PStep Z s Z2 s4 := st2.trans (PStep.same (h' := s4.heap) (tk := s2.toks) st2.zin fun b o e => k34 b o (k23 b o e))
  have z2 : ∀ b, s2.heap.objs.size ≤ b → Z2 b = none := fun b hb => st2.zin.none (le_none hb)
  have f2 : ∀ b, s2.heap.objs.size ≤ b → s.heap.get? b = none := fun b hb => none_of_keep st2.keep (le_none hb)
  have hD0 : s.heap.get? s2.heap.objs.size = none := f2 _ (Nat.le_refl _)
  have hC0 : s.heap.get? h3.objs.size = none := f2 _ (by rw [e3]; exact Nat.le_succ _)
  have hL3 : PL h3 s2.heap.objs.size ([] : List Value).toArray := ⟨_, Heap.get?_push_size _ rfl, ⟨rfl, rfl, rfl⟩, _, rfl⟩
  have hL4 : PL s4.heap s2.heap.objs.size ([] : List Value).toArray := IsList.keeps hL3 k34
  obtain ⟨S4, hW, hns⟩ := S.comp he ok st4 (h₃ := h3) (C := h3.objs.size) (D := s2.heap.objs.size) rfl (fun b o e => k23 b o (st2.keep b o e)) (fun b hb => z2 b (Nat.le_trans (by rw [e3]; exact Nat.le_succ _) hb)) rfl hD0
  have eC : (compEnvOf scope env (clOf env.cells scope.names []) h3.objs.size).locals = h3.objs.size := rfl
  have uz : ∀ b, U b → Z2 b = none := fun b ub => (hU b ub).1.2
  have C4 : Compat U B s2.heap Z2 s4 Z2 := ⟨fun b o _ e => k34 b o (k23 b o e), fun b o _ e => k34 b o (k23 b o e), Zle.refl _, st4.zin, uz⟩
  have lp : codeAny (model G.prog G.w) A (.compLoop (.ListComp elt (⟨tg, iter, ifs, 0⟩ :: rest) scope pos) 0 it (.ref s2.heap.objs.size) (compEnvOf scope env (clOf env.cells scope.names []) h3.objs.size)) (compPost (model G.prog G.w) A E use Q (.ref s2.heap.objs.size) cenv.locals) s4 := by
    refine loop_turns hun (X := fun _ => False) (Zb := Z) (sb := s) (total := outs) (n := n) (sc := relab scope sc) (tgs := tgs) (ρ := captOf scope ρ) (U := U) (B := B) rm ?_ hlen (fun b hb => ?_) (fun b ub => .inr (hU b ub).1.1) (fun b bb wb => ?_) (fun b bb ub => ?_) fd C4 (fun b ub => ?_) ?_ ?_
    · show relabel scope env = _
      rw [relab_eq, he]
    · rcases hb with hb | rfl
      · exact .inr (hW b hb)
      · exact .inr hD0
    · obtain ⟨o, e⟩ := hB' b bb
      have : s.heap.get? b = none := by
        rcases wb with wb | rfl
        · exact hW b wb
        · exact hD0
      rw [this] at e; cases e
    · obtain ⟨o, e⟩ := hB' b bb
      rw [(hU b ub).1.1] at e; cases e
    · obtain ⟨o, e, q⟩ := (hU b ub).2
      exact ⟨o, k34 b o (k23 b o e), q⟩
    · exact ⟨st4.u, S4, [], [], outs, ts, rfl, hL4, z2 _ (Nat.le_refl _), rfl⟩
    · rintro Z5 s5 u5 S5 ⟨acc, hl5, hz5, hh5⟩
      have st5 := u5.p fun b h => h.elim
      obtain ⟨m5, hm5⟩ := S5.ns
      rw [hcl, ← e3]
      exact fin _ acc h3.objs.size m5 Z5 s5 st5 hD0 hz5 hl5 hh5 hC0 hm5 S5.nz
  exact codeAny_compStart_list lp (hiter s4 Z2 _ _ C4 lp)
/-- a list comprehension as a value: a new list -/
theorem EvL.comp {elt tg iter : Expr} {ifs : List Expr} {rest : List Comprehension} {scope : Scope} {pos : Pos} {pt : PTr} {own : Bool} {ds outs : List D}
    (ok : compOk sc scope tgs = true) (hun : Unroll G (.ListComp elt (⟨tg, iter, ifs, 0⟩ :: rest) scope pos) 0 tg pt) (hs : ∀ env x, foldedSetIterable iter env x = pure x) (hit : It G n sc ρ tg iter ds own)
    (ts : Turns G n (relab scope sc) tgs (captOf scope ρ) pt ds outs) (hlen : outs.length ≤ 100000) : EvL G n sc ρ (.ListComp elt (⟨tg, iter, ifs, 0⟩ :: rest) scope pos) outs := by
  intro A env g Z s Q E rm he S h
  rw [eval_ListComp]
  refine comp_core (p := firstIterPos (⟨tg, iter, ifs, 0⟩ :: rest) pos) (compOk.at_ ok) hun (hs env) hit ts hlen rm he S fun a vs C m Z' s' st hn hz hl hh hC hm hzC => ?_
  refine ⟨m, hm, fun h' hs' => ?_⟩
  have haC : a ≠ C := Ne.symm (Ns.ne_list hm hl)
  have hl' : PL h' a vs.toArray := by obtain ⟨o, e, r⟩ := hl; exact ⟨o, (hs'.2 a haC).trans e, r⟩
  refine h a vs Z' _ ?_ hn hz hl' hh
  obtain ⟨h1, t1, rfl⟩ := st.st
  refine ⟨⟨h', t1, rfl⟩, fun b o e => ?_, st.z, fun b o e => ?_, st.zn⟩
  · exact (hs'.2 b fun q => by subst q; rw [hC] at e; cases e).trans (st.keep b o e)
  · exact (hs'.2 b fun q => by subst q; rw [hzC] at e; cases e).trans (st.zin b o e)
end
end M3
end
-- part C18
section
namespace M3
open PySem PySem.Calls PySem.Spec PyProof.Rows PySem.W
mutual
/-- data with no list in it -/
def LF : D → Bool
  | .list _ => false
  | .tup l => LFs l
  | .inst _ _ l => LFs l
  | _ => true
def LFs : List D → Bool
  | [] => true
  | d :: l => LF d && LFs l
end
open Classical in
noncomputable def Zm.del (Z : Zm) (a : Addr) : Zm := fun b => if b = a then none else Z b
theorem Zm.del_self (Z : Zm) (a : Addr) : Z.del a a = none := by simp [Zm.del]
theorem Zm.del_other (Z : Zm) {a b : Addr} (h : b ≠ a) : Z.del a b = Z b := by simp [Zm.del, h]
/-- only a list may stand at a -/
def ListAt (Z : Zm) (a : Addr) : Prop := ∀ o, Z a = some o → o.cls = .type "list"
theorem SeqZ.del {Z : Zm} {a b : Addr} {vs : List Value} (h : ListAt Z a) (x : SeqZ Z "tuple" b vs) : SeqZ (Z.del a) "tuple" b vs := by
  obtain ⟨o, e, hc, n, hd⟩ := x
  have : b ≠ a := fun q => by subst q; have := h o e; rw [hc.c] at this; injection this with this; revert this; decide
  exact ⟨o, (Zm.del_other _ this).trans e, hc, n, hd⟩
theorem InstZ.del {Z : Zm} {a b c : Addr} {ns : List Str} {vs : List Value} (h : ListAt Z a) (x : InstZ Z c ns b vs) : InstZ (Z.del a) c ns b vs := by
  obtain ⟨dx, es, n, e1, e2, r⟩ := x
  have h1 : b ≠ a := fun q => by subst q; have := h _ e1; cases this
  have h2 : dx ≠ a := fun q => by subst q; have := h _ e2; injection this with this; revert this; decide
  exact ⟨dx, es, n, (Zm.del_other _ h1).trans e1, (Zm.del_other _ h2).trans e2, r⟩
mutual
theorem Holds.del {Z : Zm} {a : Addr} (h : ListAt Z a) : ∀ {d : D} {v : Value}, LF d = true → Holds Z d v → Holds (Z.del a) d v
  | .none, _, _, x => x
  | .bool _, _, _, x => x
  | .int _, _, _, x => x
  | .str _, _, _, x => x
  | .list _, _, q, _ => by cases q
  | .tup _, _, q, ⟨b, vs, e, x, y⟩ => ⟨b, vs, e, x.del h, HoldsL.del h q y⟩
  | .inst _ _ _, _, q, ⟨b, vs, e, x, y⟩ => ⟨b, vs, e, x.del h, HoldsL.del h q y⟩
  | .addr _, _, _, x => x
theorem HoldsL.del {Z : Zm} {a : Addr} (h : ListAt Z a) : ∀ {l : List D} {vs : List Value}, LFs l = true → HoldsL Z l vs → HoldsL (Z.del a) l vs
  | [], _, _, x => x
  | d :: l, _, q, ⟨v, vs', e, x, y⟩ => by
    unfold LFs at q
    obtain ⟨q1, q2⟩ := Bool.and_eq_true_iff.mp q
    exact ⟨v, vs', e, Holds.del h q1 x, HoldsL.del h q2 y⟩
end
section
variable {G : Gc} {n : Nat} {sc : Scope} {ρ : Rho}
/-- one list of the frame's own is frozen -/
theorem Sees.freeze {env g Z} {s : Shared} {x : Str} {l : List D} (S : Sees G env g Z ρ s.heap) (e : ρ.lookup x = some (.own l)) :
    ∃ (a : Addr) (o : Obj) (vs : List Value), Z a = none ∧ s.heap.get? a = some o ∧ o.cls = .type "list" ∧ PL s.heap a vs.toArray ∧ g.get? a = none ∧ Sees G env g (Z.add a o) (ρ.set x (.fz (.list l))) s.heap := by
  obtain ⟨pl, V⟩ := S.vars
  obtain ⟨v, hv, a, vs, ea, rfl, hz, hl, hh⟩ := V.at_ x _ e
  obtain ⟨o, eo, hc, k, hd⟩ := id hl
  have zle := Zm.le_add (o := o) hz
  refine ⟨a, o, vs, hz, eo, hc.c, hl, V.og x a ea, S.z0.mono zle, S.zin.add eo, S.ek, S.eg, S.eb, S.ns, ?_, fun y hk => ?_, S.cinj, fun y => if y = x then none else pl y, fun y sl ey => ?_, fun y ey => ?_, fun y z b e1 e2 => ?_, fun y b ey => ?_⟩
  · obtain ⟨m, hm⟩ := S.ns
    rw [Zm.add_other _ _ (Ns.ne_list hm hl)]; exact S.nz
  · obtain ⟨c, w, ec, hw, hzc⟩ := S.cells y hk
    exact ⟨c, w, ec, hw, by rw [Zm.add_other _ _ (IsCell.ne_list hw hl)]; exact hzc⟩
  · rw [Rho.lookup_set] at ey
    by_cases hy : y = x
    · subst hy
      rw [if_pos rfl] at ey
      cases ey
      exact ⟨_, hv, by rw [if_pos rfl]; exact ⟨rfl, a, vs, rfl, ⟨o, Zm.add_self .., hc, k, hd⟩, HoldsL.mono zle hh⟩⟩
    · rw [if_neg hy] at ey
      obtain ⟨w, hw, hs⟩ := V.at_ y sl ey
      refine ⟨w, hw, ?_⟩
      rw [if_neg hy]
      have hne : ∀ b, pl y = some b → b ≠ a := fun b q q' => hy (V.inj y x a (q' ▸ q) ea)
      cases sl with
      | fz d => exact ⟨hs.1, Holds.mono zle hs.2⟩
      | own l' => obtain ⟨b, us, eb, ev, hzb, hlb, hhb⟩ := hs; exact ⟨b, us, eb, ev, by rw [Zm.add_other _ _ (hne b eb)]; exact hzb, hlb, HoldsL.mono zle hhb⟩
      | hdr c l' => obtain ⟨xx, b, us, eb, ev, hi, hzb, hlb, hhb⟩ := hs; exact ⟨xx, b, us, eb, ev, hi.mono zle, by rw [Zm.add_other _ _ (hne b eb)]; exact hzb, hlb, HoldsL.mono zle hhb⟩
  · rw [Rho.lookup_set] at ey
    by_cases hy : y = x
    · rw [if_pos hy] at ey; cases ey
    · rw [if_neg hy] at ey
      show (if y = x then none else pl y) = none
      rw [if_neg hy]; exact V.out y ey
  · replace e1 : (if y = x then none else pl y) = some b := e1
    replace e2 : (if z = x then none else pl z) = some b := e2
    by_cases hy : y = x
    · rw [if_pos hy] at e1; cases e1
    · by_cases hz' : z = x
      · rw [if_pos hz'] at e2; cases e2
      · rw [if_neg hy] at e1; rw [if_neg hz'] at e2; exact V.inj y z b e1 e2
  · replace ey : (if y = x then none else pl y) = some b := ey
    by_cases hy : y = x
    · rw [if_pos hy] at ey; cases ey
    · rw [if_neg hy] at ey; exact V.og y b ey
/-- after a pure step the list is taken out again -/
theorem PStep.unfreeze {Z Z2 : Zm} {s s2 : Shared} {a : Addr} {o : Obj} (hz : Z a = none) (st : PStep (Z.add a o) s Z2 s2) : PStep Z s (Z2.del a) s2 := by
  refine ⟨st.st, st.keep, fun b ob e => ?_, fun b ob e => ?_, fun b ob e nb => ?_⟩
  · have : b ≠ a := fun q => by rw [q, hz] at e; cases e
    rw [Zm.del_other _ this]
    exact st.z b ob (by rw [Zm.add_other _ _ this]; exact e)
  · by_cases q : b = a
    · subst q; rw [Zm.del_self] at e; cases e
    · rw [Zm.del_other _ q] at e; exact st.zin b ob e
  · by_cases q : b = a
    · subst q; exact Zm.del_self ..
    · rw [Zm.del_other _ q]; exact st.zn b ob e (by rw [Zm.add_other _ _ q]; exact nb)
theorem PStep.listAt {Z Z2 : Zm} {s s2 : Shared} {a : Addr} {o : Obj} (hc : o.cls = .type "list") (st : PStep (Z.add a o) s Z2 s2) : ListAt Z2 a := fun o' e => by
  have := st.z a o (Zm.add_self ..)
  rw [e] at this; cases this; exact hc
theorem Ev.unown {e : Expr} {x : Str} {l : List D} {d : D} (hx : ρ.lookup x = some (.own l)) (h : Ev G n sc (ρ.set x (.fz (.list l))) e d) (lf : LF d = true) : Ev G n sc ρ e d := by
  intro A env g Z s Q E rm he S hq
  obtain ⟨a, o, vs, hz, eo, hc, hl, hg, S'⟩ := S.freeze hx
  refine h A env g _ s Q E rm he S' fun v Z2 s2 st hv => hq v _ s2 (st.unfreeze hz) (Holds.del (st.listAt hc) lf hv)
theorem Tr.unown {e : Expr} {x : Str} {l : List D} {b : Bool} (hx : ρ.lookup x = some (.own l)) (h : Tr G n sc (ρ.set x (.fz (.list l))) e b) : Tr G n sc ρ e b := by
  intro A env g Z s Q E rm he S hq
  obtain ⟨a, o, vs, hz, eo, hc, hl, hg, S'⟩ := S.freeze hx
  exact h A env g _ s Q E rm he S' fun Z2 s2 st => hq _ s2 (st.unfreeze hz)
theorem EvL.unown {e : Expr} {x : Str} {l : List D} {ds : List D} (hx : ρ.lookup x = some (.own l)) (h : EvL G n sc (ρ.set x (.fz (.list l))) e ds) (lf : LFs ds = true) : EvL G n sc ρ e ds := by
  intro A env g Z s Q E rm he S hq
  obtain ⟨a, o, vs, hz, eo, hc, hl, hg, S'⟩ := S.freeze hx
  refine h A env g _ s Q E rm he S' fun b us Z2 s2 st hn hz2 hl2 hh => hq b us _ s2 (st.unfreeze hz) hn ?_ hl2 (HoldsL.del (st.listAt hc) lf hh)
  have : b ≠ a := fun q => by rw [q, eo] at hn; cases hn
  rw [Zm.del_other _ this]; exact hz2
theorem Ex.freeze {x : Str} {l : List D} {ss : List Stmt} {out : Out} (hx : ρ.lookup x = some (.own l)) (h : Ex G n sc (ρ.set x (.fz (.list l))) ss out) : Ex G n sc ρ ss out := by
  intro A env g Zg Z s Q E rm he S hq
  obtain ⟨a, o, vs, hz, eo, hc, hl, hg, S'⟩ := S.sees.freeze hx
  refine h A env g Zg _ s Q E rm he ⟨S', S.keep, S.zg.trans (Zm.le_add hz), fun b ob e nb => ?_, S.lf, S.nofree, S.cf⟩ hq
  have : b ≠ a := fun q => by rw [q, hg] at e; cases e
  rw [Zm.add_other _ _ this]; exact S.zng b ob e nb
theorem Ex.weak {ρ' : Rho} {ss : List Stmt} {out : Out} (hsub : ∀ x sl, ρ'.lookup x = some sl → ρ.lookup x = some sl) (h : Ex G n sc ρ' ss out) : Ex G n sc ρ ss out := by
  intro A env g Zg Z s Q E rm he S hq
  exact h A env g Zg Z s Q E rm he ⟨S.sees.weak hsub, S.keep, S.zg, S.zng, S.lf, S.nofree, S.cf⟩ hq
theorem Ex.post {ρ₁ ρ₂ : Rho} {ss : List Stmt} (h : Ex G n sc ρ ss (.nx ρ₁)) (hsub : ∀ x sl, ρ₂.lookup x = some sl → ρ₁.lookup x = some sl) : Ex G n sc ρ ss (.nx ρ₂) := by
  intro A env g Zg Z s Q E rm he S hq
  refine h A env g Zg Z s Q E rm he S fun f Z' s' hs ho => hq f Z' s' hs ?_
  obtain ⟨hf, S'⟩ := ho
  exact ⟨hf, S'.sees.weak hsub, S'.keep, S'.zg, S'.zng, S'.lf, S'.nofree, S'.cf⟩
/-- decidable: every name of ρ' stands for the same in ρ -/
theorem sub_of {ρ' : Rho} (h : ∀ p ∈ ρ', ρ.lookup p.1 = some p.2) : ∀ x sl, ρ'.lookup x = some sl → ρ.lookup x = some sl := fun x sl e => h (x, sl) (mem_of_lookup e)
end
end M3
end
-- part C19
section
namespace M3
open PySem PySem.Calls PySem.Spec PyProof.Rows PySem.W
open Classical in
/-- the heap's part at the places P -/
noncomputable def only (h : Heap) (P : Addr → Prop) : Heap := ⟨h.objs.mapIdx fun i o => if P i then o else { cls := .none, data := .freed }, {}⟩
theorem only_get {h : Heap} {P : Addr → Prop} {b : Addr} (p : P b) : (only h P).get? b = h.get? b := by
  unfold only Heap.get?
  simp only [Array.getElem?_mapIdx]
  cases q : h.objs[b]? with
  | none => rfl
  | some o => simp only [Option.map_some, if_pos p]
theorem only_none {h : Heap} {P : Addr → Prop} {b : Addr} (p : ¬ P b) : (only h P).get? b = none := by
  unfold only Heap.get?
  simp only [Array.getElem?_mapIdx]
  cases q : h.objs[b]? with
  | none => rfl
  | some o => simp only [Option.map_some, if_neg p]
theorem only_some {h : Heap} {P : Addr → Prop} {b : Addr} {o : Obj} (e : (only h P).get? b = some o) : P b ∧ h.get? b = some o := by
  by_cases p : P b
  · rw [only_get p] at e; exact ⟨p, e⟩
  · rw [only_none p] at e; cases e
section
variable {G : Gc} {n : Nat} {sc : Scope} {ρ : Rho} {tgs : List Str}
theorem Sees.base {env g g' Z h} (S : Sees G env g Z ρ h) (hg : ∀ pl, Vars env g Z ρ h pl → ∀ x a, pl x = some a → g'.get? a = none) : Sees G env g' Z ρ h :=
  ⟨S.z0, S.zin, S.ek, S.eg, S.eb, S.ns, S.nz, S.cells, S.cinj, let ⟨pl, V⟩ := S.vars; ⟨pl, V.at_, V.out, V.inj, hg pl V⟩⟩
/-- the frame over another base: what the frame may not turn -/
theorem SeesF.over {env g Zg Z ρ h} (S : SeesF G env g Zg Z ρ h) {U : Addr → Prop} (hU : ∀ b o, U b → h.get? b = some o → Odd o) :
    SeesF G env (only h fun b => (∃ o, g.get? b = some o) ∨ U b) Z Z ρ h := by
  have gl : ∀ {b}, g.get? b = none → (∀ o, h.get? b = some o → ¬ Odd o) → (only h fun b => (∃ o, g.get? b = some o) ∨ U b).get? b = none := fun {b} hg ho => by
    cases q : (only h fun b => (∃ o, g.get? b = some o) ∨ U b).get? b with
    | none => rfl
    | some o =>
      obtain ⟨p, e⟩ := only_some q
      rcases p with ⟨o', e'⟩ | ub
      · rw [hg] at e'; cases e'
      · exact absurd (hU b o ub e) (ho o e)
  refine ⟨S.sees.base fun pl V x a ea => ?_, fun b o e => (only_some e).2, Zle.refl _, fun _ _ _ e => e, ?_, S.nofree, fun x c hk hc => ?_⟩
  · obtain ⟨_, vs, hl⟩ := V.list ea
    exact gl (V.og x a ea) fun o e => IsList.notOdd hl e
  · obtain ⟨m, hm⟩ := S.sees.ns
    exact gl S.lf fun o e => Ns.notOdd hm e
  · obtain ⟨c', v, e, hv, _⟩ := S.sees.cells x (.inl hk)
    rw [hc] at e; cases e
    exact gl (S.cf x c hk hc) fun o e => IsCell.notOdd hv e
theorem over_g {g h : Heap} {U : Addr → Prop} {b : Addr} (k : ∀ b o, g.get? b = some o → h.get? b = some o) {o : Obj} (e : g.get? b = some o) : (only h fun b => (∃ o, g.get? b = some o) ∨ U b).get? b = some o := by
  rw [only_get (.inl ⟨o, e⟩)]; exact k b o e
theorem over_none {g h : Heap} {U : Addr → Prop} {b : Addr} (k : ∀ b o, g.get? b = some o → h.get? b = some o) (e : (only h fun b => (∃ o, g.get? b = some o) ∨ U b).get? b = none) : g.get? b = none := by
  cases q : g.get? b with
  | none => rfl
  | some o => rw [over_g k q] at e; cases e
theorem Done.back {env g Zg Z ρ h Z' h'} {U : Addr → Prop} (S : SeesF G env g Zg Z ρ h) (D : Done (only h fun b => (∃ o, g.get? b = some o) ∨ U b) Z Z' h') : Done g Zg Z' h' :=
  ⟨D.zin, fun b o e => D.keep b o (over_g S.keep e), S.zg.trans D.zg, fun a o e nz => D.zng a o (over_g S.keep e) (S.zng a o e nz)⟩
theorem SeesF.back {env g Zg Z ρ ρ' h Z' h'} {U : Addr → Prop} (S : SeesF G env g Zg Z ρ h) (T : SeesF G env (only h fun b => (∃ o, g.get? b = some o) ∨ U b) Z Z' ρ' h') : SeesF G env g Zg Z' ρ' h' :=
  ⟨T.sees.base fun pl V x a ea => over_none S.keep (V.og x a ea), (T.done.back S).keep, (T.done.back S).zg, (T.done.back S).zng, S.lf, T.nofree, S.cf⟩
theorem OutH.back {out : Out} {env g Zg Z ρ h Z' h' f} {U : Addr → Prop} (S : SeesF G env g Zg Z ρ h) (T : OutH G out env (only h fun b => (∃ o, g.get? b = some o) ∨ U b) Z Z' h' f) : OutH G out env g Zg Z' h' f := by
  cases out with
  | nx ρ' => exact ⟨T.1, S.back T.2⟩
  | brk ρ' => exact ⟨T.1, S.back T.2⟩
  | ret d => obtain ⟨v, rfl, hv, D⟩ := T; exact ⟨v, rfl, hv, D.back S⟩
  | retL l => obtain ⟨a, vs, rfl, hg, hz, hl, hh, D⟩ := T; exact ⟨a, vs, rfl, over_none S.keep hg, hz, hl, hh, D.back S⟩
/-- the frame after a store into its own names -/
theorem SeesF.ustep {env g Zg Z Z' ρ ρ'} {s s' : Shared} (S : SeesF G env g Zg Z ρ s.heap) (u : UStep (Wt env tgs) Z s Z' s') (S' : Sees G env g Z' ρ' s'.heap) : SeesF G env g Zg Z' ρ' s'.heap := by
  have hw : ∀ b o, g.get? b = some o → ¬ Wt env tgs b := fun b o e w => by
    rcases w with rfl | ⟨x, _, hk, hc⟩
    · rw [S.lf] at e; cases e
    · rw [S.cf x b hk hc] at e; cases e
  exact ⟨S', fun b o e => u.keep b o (hw b o e) (S.keep b o e), S.zg.trans u.z, fun a o e nz => u.zn a o (hw a o e) (S.keep a o e) (S.zng a o e nz), S.lf, S.nofree, S.cf⟩
theorem for_step {A : Around} {target : Expr} {it : Value} {body orelse : List Stmt} {env : Env} {R : Result → Shared → Prop} {s : Shared}
    (h : ∀ E, wpAny (model G.prog G.w) A (pyNext it) (fun r s₁ => match r with
      | none => wpAny (model G.prog G.w) A (execs orelse env) (fun f s₃ => R (.ok f) s₃) E s₁
      | some v => wpAny (model G.prog G.w) A (letOwnedTupleGo target it v) (fun _ s₁' => wpAny (model G.prog G.w) A (assign target env v) (fun _ s₂ => wpAny (model G.prog G.w) A (execs body env) (fun f s₃ => match f with
            | .next | .cont => codeAny (model G.prog G.w) A (.forLoop target it body orelse env) R s₃
            | .brk => R (.ok .next) s₃
            | .ret v => R (.ok (.ret v)) s₃) E s₂) E s₁') E s₁) E s) : codeAny (model G.prog G.w) A (.forLoop target it body orelse env) R s := by
  refine codeAny_of_tree ?_
  show wpAny _ A ((forTurn target it body orelse env).onRaise (fun x => do noteFrame x env; theTreesLotGoes x)) _ _ s
  refine wpAny_noted ?_
  simp only [forTurn]
  refine wpAny_bind (wpAny_standAt (wpAny_bind (wpAny_onRaise (wpAny_mono (h _) (fun r s₁ h₁ => ?_) fun _ _ h' => wpAny_standAt h'))))
  cases r with
  | none => exact wpAny_pure ⟨rfl, codeAny_block h₁⟩
  | some v =>
    refine wpAny_bind (wpAny_mono h₁ (fun _ s₁' h₁' => ?_) fun _ _ h' => h')
    refine wpAny_bind (wpAny_mono h₁' (fun _ s₂ h₂ => wpAny_bind (wpAny_mono h₂ (fun f s₃ h₃ => ?_) fun _ _ h' => h')) fun _ _ h' => h')
    cases f with
    | next => exact wpAny_pure ⟨rfl, h₃⟩
    | cont => exact wpAny_pure ⟨rfl, h₃⟩
    | brk => exact wpAny_pure h₃
    | ret v => exact wpAny_pure h₃
theorem while_step {A : Around} {test : Expr} {body orelse : List Stmt} {env : Env} {R : Result → Shared → Prop} {s : Shared}
    (h : ∀ E, wpAny (model G.prog G.w) A (isTrue test env (eval test env)) (fun b s₁ => if b = true then wpAny (model G.prog G.w) A (execs body env) (fun f s₃ => match f with
            | .next | .cont => codeAny (model G.prog G.w) A (.whileLoop test body orelse env) R s₃
            | .brk => R (.ok .next) s₃
            | .ret v => R (.ok (.ret v)) s₃) E s₁
      else wpAny (model G.prog G.w) A (execs orelse env) (fun f s₃ => R (.ok f) s₃) E s₁) E s) : codeAny (model G.prog G.w) A (.whileLoop test body orelse env) R s := by
  refine codeAny_of_tree ?_
  show wpAny _ A ((whileTurn test body orelse env).onRaise (fun x => do noteFrame x env; theTreesLotGoes x)) _ _ s
  refine wpAny_noted ?_
  simp only [whileTurn]
  refine wpAny_bind (wpAny_mono (h _) (fun b s₁ h₁ => ?_) fun _ _ h' => h')
  cases b with
  | false => exact wpAny_bind (wpAny_mono h₁ (fun f s₂ h₂ => wpAny_pure h₂) fun _ _ h' => h')
  | true =>
    refine wpAny_bind (wpAny_mono h₁ (fun f s₂ h₂ => ?_) fun _ _ h' => h')
    cases f with
    | next => exact wpAny_pure ⟨rfl, h₂⟩
    | cont => exact wpAny_pure ⟨rfl, h₂⟩
    | brk => exact wpAny_pure h₂
    | ret v => exact wpAny_pure h₂
end
def Out.rets : Out → Prop
  | .ret _ => True
  | .retL _ => True
  | _ => False
section
variable (G : Gc)
/-- what a for loop's turns come to -/
def ForTo (n : Nat) (sc : Scope) (tgs : List Str) (tg : Expr) (body : List Stmt) : List D → Rho → Out → Prop
  | [], ρ, out => out = .nx ρ
  | d :: ds, ρ, out => ∃ ρ₁, Tg G sc tgs ρ tg d ρ₁ ∧ ((∃ ρ₂, Ex G n sc ρ₁ body (.nx ρ₂) ∧ ForTo n sc tgs tg body ds ρ₂ out) ∨ (∃ ρ₂, Ex G n sc ρ₁ body (.brk ρ₂) ∧ out = .nx ρ₂) ∨ (out.rets ∧ Ex G n sc ρ₁ body out))
/-- what a while loop's turns come to -/
inductive WhileTo (n : Nat) (sc : Scope) (test : Expr) (body : List Stmt) : Rho → Out → Prop
  | stop {ρ} : Tr G n sc ρ test false → WhileTo n sc test body ρ (.nx ρ)
  | turn {ρ ρ₁ out} : Tr G n sc ρ test true → Ex G n sc ρ body (.nx ρ₁) → WhileTo n sc test body ρ₁ out → WhileTo n sc test body ρ out
  | brk {ρ ρ₁} : Tr G n sc ρ test true → Ex G n sc ρ body (.brk ρ₁) → WhileTo n sc test body ρ (.nx ρ₁)
  | ret {ρ out} : Tr G n sc ρ test true → out.rets → Ex G n sc ρ body out → WhileTo n sc test body ρ out
end
section
variable {G : Gc} {n : Nat} {sc : Scope} {ρ : Rho} {tgs : List Str}
theorem for_run {A : Around} {tg : Expr} {it : Value} {body : List Stmt} {env : Env} {R : Result → Shared → Prop} {g : Heap} {Zg : Zm} {out : Out} {s₀ : Shared} {B : Addr → Prop} (rm : Room n A) (he : env.scope = sc) (hB : ∀ b, ¬ B b)
    (hR : ∀ f Z' s', (∃ h' tk, s' = { s₀ with heap := h', toks := tk }) → OutH G out env g Zg Z' s'.heap f → R (.ok f) s') :
    ∀ (ds : List D) (ρ : Rho) (Z : Zm) (U : Addr → Prop) (h : Heap), Feeds G A tg it ds Z U B h → ∀ (s : Shared) (Z₁ : Zm), (∃ h' tk, s = { s₀ with heap := h', toks := tk }) → Compat U B h Z s Z₁ → (∀ b, U b → ∃ o, s.heap.get? b = some o ∧ Odd o) → (∀ b, U b → g.get? b = none) →
      SeesF G env g Zg Z₁ ρ s.heap → ForTo G n sc tgs tg body ds ρ out → codeAny (model G.prog G.w) A (.forLoop tg it body [] env) R s
  | [], ρ, Z, U, h, fd, s, Z₁, hs, C, hu, hg, S, ft => by
    have : out = .nx ρ := ft
    subst this
    refine for_step fun E => fd s Z₁ _ E C fun s' us => wpAny_execs_nil ?_
    have hodd : ∀ b o, U b → s.heap.get? b = some o → Odd o := fun b o ub e => by obtain ⟨o', e', q⟩ := hu b ub; rw [e] at e'; cases e'; exact q
    refine hR _ Z₁ s' (by obtain ⟨h1, t1, rfl⟩ := hs; obtain ⟨h2, t2, rfl⟩ := us.st; exact ⟨h2, t2, rfl⟩) ⟨rfl, S.sees.iter us hodd, fun b o e => us.keep b o (fun ub => by rw [hg b ub] at e; cases e) (S.keep b o e), S.zg, S.zng, S.lf, S.nofree, S.cf⟩
  | d :: ds, ρ, Z, U, h, fd, s, Z₁, hs, C, hu, hg, S, ft => by
    refine for_step fun E => ?_
    have hodd : ∀ b o, U b → s.heap.get? b = some o → Odd o := fun b o ub e => by obtain ⟨o', e', q⟩ := hu b ub; rw [e] at e'; cases e'; exact q
    have key := fd s Z₁ (fun v s₂ => wpAny (model G.prog G.w) A (assign tg env v) (fun _ s₂ => wpAny (model G.prog G.w) A (execs body env) (fun f s₃ => match f with
            | .next | .cont => codeAny (model G.prog G.w) A (.forLoop tg it body [] env) R s₃
            | .brk => R (.ok .next) s₃
            | .ret v => R (.ok (.ret v)) s₃) E s₂) E s₂) E C (fun v Z₂ U₂ s₂ us hv fd₂ hsub hodd₂ huz => ?_)
    · refine wpAny_mono key (fun r s₁ hr => ?_) fun _ _ x => x
      cases r with
      | none => exact hr.elim
      | some v => exact hr
    · have S₂ : SeesF G env g Zg Z₂ ρ s₂.heap := ⟨S.sees.iter us hodd, fun b o e => us.keep b o (fun ub => by rw [hg b ub] at e; cases e) (S.keep b o e), S.zg.trans us.z, fun a o e nz => us.zn a o (fun ub => by rw [hg a ub] at e; cases e) (S.keep a o e) (S.zng a o e nz), S.lf, S.nofree, S.cf⟩
      have hs₂ : ∃ h' tk, s₂ = { s₀ with heap := h', toks := tk } := by obtain ⟨h1, t1, rfl⟩ := hs; obtain ⟨h2, t2, rfl⟩ := us.st; exact ⟨h2, t2, rfl⟩
      obtain ⟨ρ₁, t, alt⟩ := ft
      refine t A env g Z₂ s₂ v _ E rm.hh he S₂.sees hv fun s₃ u₃ S₃' => ?_
      have S₃ : SeesF G env g Zg Z₂ ρ₁ s₃.heap := S₂.ustep u₃ S₃'
      have hs₃ : ∃ h' tk, s₃ = { s₀ with heap := h', toks := tk } := by obtain ⟨h1, t1, rfl⟩ := hs₂; obtain ⟨h2, t2, rfl⟩ := u₃.st; exact ⟨h2, t2, rfl⟩
      have hU₃ : ∀ b, U₂ b → ∃ o, s₃.heap.get? b = some o ∧ Odd o := fun b ub => by
        obtain ⟨o, e, q⟩ := hodd₂ b ub
        exact ⟨o, u₃.keep b o (fun w => Wt.notOdd S₂.sees w e q) e, q⟩
      have hodd₃ : ∀ b o, U₂ b → s₃.heap.get? b = some o → Odd o := fun b o ub e => by obtain ⟨o', e', q⟩ := hU₃ b ub; rw [e] at e'; cases e'; exact q
      have SO := S₃.over (U := U₂) hodd₃
      have sh : ∀ {s' : Shared}, (∃ h' tk, s' = { s₃ with heap := h', toks := tk }) → ∃ h' tk, s' = { s₀ with heap := h', toks := tk } := fun {s'} q => by obtain ⟨h1, t1, rfl⟩ := hs₃; obtain ⟨h2, t2, rfl⟩ := q; exact ⟨h2, t2, rfl⟩
      rcases alt with ⟨ρ₂, ex, ft'⟩ | ⟨ρ₂, ex, rfl⟩ | ⟨hr, ex⟩
      · refine ex A env _ Z₂ Z₂ s₃ _ E rm he SO fun f Z₄ s₄ hs₄ ho => ?_
        obtain ⟨rfl, S₄⟩ := ho
        dsimp only
        have kU : ∀ b o, U₂ b → s₃.heap.get? b = some o → s₄.heap.get? b = some o := fun b o ub e => S₄.keep b o (by rw [only_get (.inr ub)]; exact e)
        refine for_run rm he hB hR ds ρ₂ Z₂ U₂ s₂.heap fd₂ s₄ Z₄ (sh hs₄) ⟨fun b o ub e => ?_, fun b o bb e => (hB b bb).elim, S₄.zg, S₄.sees.zin, fun b ub => ?_⟩ (fun b ub => ?_) (fun b ub => hg b (hsub b ub)) (S₃.back S₄) ft'
        · exact kU b o ub (u₃.keep b o (fun w => by obtain ⟨o', e', q⟩ := hodd₂ b ub; exact Wt.notOdd S₂.sees w e' q) e)
        · obtain ⟨o, e, q⟩ := hU₃ b ub
          exact S₄.zng b o (by rw [only_get (.inr ub)]; exact e) (huz b ub)
        · obtain ⟨o, e, q⟩ := hU₃ b ub
          exact ⟨o, kU b o ub e, q⟩
      · refine ex A env _ Z₂ Z₂ s₃ _ E rm he SO fun f Z₄ s₄ hs₄ ho => ?_
        obtain ⟨rfl, S₄⟩ := ho
        exact hR _ Z₄ s₄ (sh hs₄) ⟨rfl, S₃.back S₄⟩
      · refine ex A env _ Z₂ Z₂ s₃ _ E rm he SO fun f Z₄ s₄ hs₄ ho => ?_
        have hb := OutH.back S₃ ho
        have key := hR f Z₄ s₄ (sh hs₄) hb
        cases out with
        | nx => exact hr.elim
        | brk => exact hr.elim
        | ret d => obtain ⟨w, rfl, _⟩ := ho; exact key
        | retL l => obtain ⟨a, vs, rfl, _⟩ := ho; exact key
theorem Ex1.for_ {tg iter : Expr} {body : List Stmt} {pos : Pos} {ds : List D} {out : Out} (hs : ∀ env x, foldedSetIterable iter env x = pure x) (hit : It G n sc ρ tg iter ds false) (ft : ForTo G n sc tgs tg body ds ρ out) : Ex1 G n sc ρ (.For tg iter body [] pos) out := by
  intro A env g Zg Z s Q E rm he S hq
  refine wpAny_For ?_ (hs env)
  refine hit A env g Z s _ E rm he S.sees fun it Z2 s2 U B st2 fd hU hB hB' hiter => ?_
  have hg : ∀ b, U b → g.get? b = none := fun b ub => by
    cases q : g.get? b with
    | none => rfl
    | some o => have := S.keep b o q; rw [(hU b ub).1.1] at this; cases this
  refine for_run (s₀ := s) (out := out) rm he (hB rfl) (fun f Z' s' hs ho => hq f Z' s' hs ho) ds ρ Z2 U s2.heap fd s2 Z2 st2.st ⟨fun _ _ _ e => e, fun _ _ _ e => e, Zle.refl _, st2.zin, fun b ub => (hU b ub).1.2⟩ (fun b ub => (hU b ub).2) hg (S.step st2) ft
theorem while_run {A : Around} {test : Expr} {body : List Stmt} {env : Env} {R : Result → Shared → Prop} {g : Heap} {Zg : Zm} {out : Out} {s₀ : Shared} (rm : Room n A) (he : env.scope = sc)
    (w : WhileTo G n sc test body ρ out) : (∀ f Z' s', (∃ h' tk, s' = { s₀ with heap := h', toks := tk }) → OutH G out env g Zg Z' s'.heap f → R (.ok f) s') →
    ∀ (s : Shared) (Z : Zm), (∃ h' tk, s = { s₀ with heap := h', toks := tk }) → SeesF G env g Zg Z ρ s.heap → codeAny (model G.prog G.w) A (.whileLoop test body [] env) R s := by
  have sh : ∀ {s s' : Shared}, (∃ h' tk, s = { s₀ with heap := h', toks := tk }) → (∃ h' tk, s' = { s with heap := h', toks := tk }) → ∃ h' tk, s' = { s₀ with heap := h', toks := tk } := fun {s s'} p q => by obtain ⟨h1, t1, rfl⟩ := p; obtain ⟨h2, t2, rfl⟩ := q; exact ⟨h2, t2, rfl⟩
  induction w with
  | stop t =>
    intro hR s Z hs S
    refine while_step fun E => t A env g Z s _ E rm he S.sees fun Z' s' st => ?_
    rw [if_neg (by decide)]
    exact wpAny_execs_nil (hR _ Z' s' (sh hs st.st) ⟨rfl, S.step st⟩)
  | turn t ex w ih =>
    intro hR s Z hs S
    refine while_step fun E => t A env g Z s _ E rm he S.sees fun Z' s' st => ?_
    rw [if_pos rfl]
    refine ex A env g Zg Z' s' _ E rm he (S.step st) fun f Z₄ s₄ hs₄ ho => ?_
    obtain ⟨rfl, S₄⟩ := ho
    exact ih hR s₄ Z₄ (sh (sh hs st.st) hs₄) S₄
  | brk t ex =>
    intro hR s Z hs S
    refine while_step fun E => t A env g Z s _ E rm he S.sees fun Z' s' st => ?_
    rw [if_pos rfl]
    refine ex A env g Zg Z' s' _ E rm he (S.step st) fun f Z₄ s₄ hs₄ ho => ?_
    obtain ⟨rfl, S₄⟩ := ho
    exact hR _ Z₄ s₄ (sh (sh hs st.st) hs₄) ⟨rfl, S₄⟩
  | @ret ρ out t hr ex =>
    intro hR s Z hs S
    refine while_step fun E => t A env g Z s _ E rm he S.sees fun Z' s' st => ?_
    rw [if_pos rfl]
    refine ex A env g Zg Z' s' _ E rm he (S.step st) fun f Z₄ s₄ hs₄ ho => ?_
    have key := hR f Z₄ s₄ (sh (sh hs st.st) hs₄) ho
    cases out with
    | nx => exact hr.elim
    | brk => exact hr.elim
    | ret d => obtain ⟨w, rfl, _⟩ := ho; exact key
    | retL l => obtain ⟨a, vs, rfl, _⟩ := ho; exact key
theorem Ex1.while_ {test : Expr} {body : List Stmt} {pos : Pos} {out : Out} (w : WhileTo G n sc test body ρ out) : Ex1 G n sc ρ (.While test body [] pos) out := by
  intro A env g Zg Z s Q E rm he S hq
  exact wpAny_While (while_run (s₀ := s) rm he w (fun f Z' s' hs ho => hq f Z' s' hs ho) s Z ⟨s.heap, s.toks, rfl⟩ S)
end
end M3
end
-- part C20
section
namespace M3
open PySem PySem.Calls PySem.Spec PyProof.Rows PySem.W
theorem VarAt.unique {env : Env} {h : Heap} {x : Str} {v w : Value} (a : VarAt env h x v) (b : VarAt env h x w) : v = w := by
  rcases a with ⟨k, m, hm, e⟩ | ⟨k, c, hc, e⟩ <;> rcases b with ⟨k', m', hm', e'⟩ | ⟨k', c', hc', e'⟩
  · rw [Ns.unique hm hm'] at e; rw [e] at e'; exact Option.some.inj e'
  · rw [k] at k'; rcases k' with k' | k' <;> cases k'
  · rw [k'] at k; rcases k with k | k <;> cases k
  · rw [hc] at hc'; cases hc'
    exact Option.some.inj (IsCell.unique e e')
section
variable {G : Gc} {n : Nat} {sc : Scope} {ρ : Rho} {tgs : List Str}
theorem stx (s : Shared) : ∃ h' tk, s = { s with heap := h', toks := tk } := ⟨s.heap, s.toks, rfl⟩
theorem st_tr {s s1 s2 : Shared} (p : ∃ h' tk, s1 = { s with heap := h', toks := tk }) (q : ∃ h' tk, s2 = { s1 with heap := h', toks := tk }) : ∃ h' tk, s2 = { s with heap := h', toks := tk } := by obtain ⟨h1, t1, rfl⟩ := p; obtain ⟨h2, t2, rfl⟩ := q; exact ⟨h2, t2, rfl⟩
theorem Ex1.assign {x : Str} {px pos : Pos} {e : Expr} {d : D} (hx : storable sc x = true) (h : Ev G n sc ρ e d) (hs : ∀ env : Env, env.scope = sc → swapsWith e (some (.Name x px)) pos.line env = pure false) :
    Ex1 G n sc ρ (.Assign [.Name x px] e pos) (.nx (ρ.set x (.fz d))) := by
  intro A env g Zg Z s Q E rm he S hq
  refine wpAny_Assign_Name (h A env g Z s _ E rm he S.sees fun v Z1 s1 st1 hv => ?_) (hs env he)
  exact (S.step st1).storeFz (storable.kind hx he) hv fun h' tk S' => hq _ Z1 _ (st_tr st1.st ⟨h', tk, rfl⟩) ⟨rfl, S'⟩
theorem Ex1.assignL {x : Str} {px pos : Pos} {e : Expr} {l : List D} (hx : storable sc x = true) (h : EvL G n sc ρ e l) (hs : ∀ env : Env, env.scope = sc → swapsWith e (some (.Name x px)) pos.line env = pure false) :
    Ex1 G n sc ρ (.Assign [.Name x px] e pos) (.nx (ρ.set x (.own l))) := by
  intro A env g Zg Z s Q E rm he S hq
  refine wpAny_Assign_Name (h A env g Z s _ E rm he S.sees fun a vs Z1 s1 st1 hn hz hl hh => ?_) (hs env he)
  exact SeesF.storeOwn S st1 (storable.kind hx he) hn hz hl hh fun h' tk S' _ => hq _ Z1 _ (st_tr st1.st ⟨h', tk, rfl⟩) ⟨rfl, S'⟩
/-- a frame is not touched by a namespace that is none of its own -/
theorem SeesF.skip {env g Zg Z} {s s' : Shared} {C : Addr} {m} (S : SeesF G env g Zg Z ρ s.heap) (hC : s.heap.Ns C m) (hne : C ≠ env.locals) (hz : Z C = none) (hg : g.get? C = none) (hs : Heap.SameBut C s.heap s'.heap) (hst : ∃ h' tk, s' = { s with heap := h', toks := tk }) : SeesF G env g Zg Z ρ s'.heap := by
  have u : UStep (fun b => b = C) Z s Z s' := ⟨hst, fun b o nb e => (hs.2 b nb).trans e, Zle.refl _, fun a o e => (hs.2 a fun q => by rw [q, hz] at e; cases e).trans (S.sees.zin a o e), fun _ _ _ _ e => e⟩
  refine ⟨S.sees.ustep u (fun m' hm' q => hne q.symm) (fun c v hc _ q => by subst q; exact Ns.ne_cell hC hc rfl) (fun pl V x b vs hl _ q => by subst q; exact Ns.ne_list hC hl rfl), fun b o e => ?_, S.zg, S.zng, S.lf, S.nofree, S.cf⟩
  exact u.keep b o (fun q => by subst q; rw [hg] at e; cases e) (S.keep b o e)
/-- x = [ ... for ... ]: the list is stored before the comprehension's names go -/
theorem Ex1.assignComp {elt tg iter : Expr} {ifs : List Expr} {rest : List Comprehension} {scope : Scope} {pos : Pos} {pt : PTr} {own : Bool} {ds outs : List D} {x : Str} {px spos : Pos}
    (hx : sc.names.lookup x = some .local) (hsw : ∀ env : Env, env.scope = sc → swapsWith (.ListComp elt (⟨tg, iter, ifs, 0⟩ :: rest) scope pos) (some (.Name x px)) spos.line env = pure true)
    (ok : compOk sc scope tgs = true) (hun : Unroll G (.ListComp elt (⟨tg, iter, ifs, 0⟩ :: rest) scope pos) 0 tg pt) (hs : ∀ env x, foldedSetIterable iter env x = pure x) (hit : It G n sc ρ tg iter ds own)
    (ts : Turns G n (relab scope sc) tgs (captOf scope ρ) pt ds outs) (hlen : outs.length ≤ 100000) :
    Ex1 G n sc ρ (.Assign [.Name x px] (.ListComp elt (⟨tg, iter, ifs, 0⟩ :: rest) scope pos) spos) (.nx (ρ.set x (.own outs))) := by
  intro A env g Zg Z s Q E rm he S hq
  have hk : env.kindOf x = some .local := by unfold Env.kindOf; rw [he]; exact hx
  rw [exec_Assign_Name_used _ _ _ _ (hsw env he)]
  refine wpAny_bind (wpAny_standAt (wpAny_bind ?_))
  show wpAny _ A (do let _ ← comprehension (.ListComp elt (⟨tg, iter, ifs, 0⟩ :: rest) scope pos) scope env _ (newList []) false (eval iter env) (some (PySem.assign (.Name x px) env))) _ _ s
  refine wpAny_bind (wpAny_mono (comp_core (use := some (PySem.assign (.Name x px) env)) (Q := fun _ s' => Q .next s') (compOk.at_ ok) hun (hs env) hit ts hlen rm he S.sees fun a vs C m Z' s' st hn hz hl hh hC hm hzC => ?_) (fun _ s' hq => wpAny_pure (wpAny_pure hq)) fun _ _ e => e)
  show wpAny _ A (PySem.assign (.Name x px) env (.ref a)) _ _ _
  refine wpAny_assign_Name (SeesF.storeOwn S st (.inl hk) hn hz hl hh fun h' tk S' hsb => ?_)
  obtain ⟨b, hsb, hb⟩ := hsb
  have hbL : b = env.locals := by
    rcases hb with hb | ⟨hk', _⟩
    · exact hb
    · rw [hk] at hk'; cases hk'
  subst hbL
  have nC : C ≠ env.locals := fun q => by
    obtain ⟨m0, hm0⟩ := S.sees.ns
    obtain ⟨o, e⟩ := Ns.get hm0
    rw [q, e] at hC; cases hC
  have gC : g.get? C = none := by
    cases q : g.get? C with
    | none => rfl
    | some o => rw [S.keep _ _ q] at hC; cases hC
  have hm' : h'.Ns C m := hm.sameBut hsb nC
  refine ⟨m, hm', fun h'' hs'' => ?_⟩
  refine hq _ Z' _ (st_tr st.st ⟨h'', tk, rfl⟩) ⟨rfl, ?_⟩
  exact SeesF.skip (s := { s' with heap := h', toks := tk }) (s' := { s' with heap := h'', toks := tk }) S' hm' nC hzC gC hs'' ⟨h'', tk, rfl⟩
theorem Ex1.brk_ {pos : Pos} : Ex1 G n sc ρ (.Break pos) (.brk ρ) := by
  intro A env g Zg Z s Q E rm he S hq
  exact wpAny_Break (hq _ Z s (stx s) ⟨rfl, S⟩)
theorem Ex1.aug {x : Str} {px pos : Pos} {e : Expr} {i j : Int} (ok : okName x = true) (hx : storable sc x = true) (hi : ρ.lookup x = some (.fz (.int i))) (h : Ev G n sc ρ e (.int j)) :
    Ex1 G n sc ρ (.AugAssign (.Name x px) .Add e pos) (.nx (ρ.set x (.fz (.int (i + j))))) := by
  intro A env g Zg Z s Q E rm he S hq
  obtain ⟨h1, h2⟩ := Bool.and_eq_true_iff.mp ok
  refine wpAny_AugAssign_Name (S.sees.load hi (fun v o _ hv => ?_) (by simpa using h2))
  obtain ⟨_, t, rfl⟩ := hv
  refine h A env g Z s _ E rm he S.sees fun w Z1 s1 st1 hw => ?_
  obtain ⟨u, rfl⟩ := hw
  refine AutoIntOps.iadd_0 ?_
  refine (S.step (st1.trans (PStep.tok st1.zin (s1.toks + 1)))).storeFz (s := { s1 with toks := s1.toks + 1 }) (d := .int (i + j)) (storable.kind hx he) ⟨_, rfl⟩ fun h' tk S' => hq _ Z1 _ (st_tr st1.st ⟨h', tk, rfl⟩) ⟨rfl, S'⟩
/-- a = b = c = e -/
theorem exec_Assign3 {a b c : Str} {pa pb pc pos : Pos} {e : Expr} {A : Around} {E : Value → Shared → Prop} {env : Env} {s : Shared} {Q : Flow → Shared → Prop}
    (h : wpAny (model G.prog G.w) A (eval e env) (fun v s1 => wpAny (model G.prog G.w) A (storeName env a v) (fun _ s2 => wpAny (model G.prog G.w) A (storeName env b v) (fun _ s3 => wpAny (model G.prog G.w) A (storeName env c v) (fun _ s4 => Q .next s4) E s3) E s2) E s1) E s) :
    wpAny (model G.prog G.w) A (exec (.Assign [.Name a pa, .Name b pb, .Name c pc] e pos) env) Q E s := by
  rw [exec_Assign]
  refine wpAny_bind (wpAny_standAt (wpAny_bind (wpAny_of_eq (a := false) (by rfl) ?_)))
  rw [if_neg (by decide)]
  refine wpAny_bind (wpAny_mono h (fun v s1 h1 => wpAny_bind (wpAny_of_eq (a := none) (by rfl) ?_)) fun _ _ x => x)
  show wpAny _ A (do assignAll v [PySem.assign (.Name a pa) env, PySem.assign (.Name b pb) env, PySem.assign (.Name c pc) env]; pure .next) Q E s1
  refine wpAny_bind ?_
  show wpAny _ A (do holding [v] (PySem.assign (.Name a pa) env v); holding [v] (PySem.assign (.Name b pb) env v); PySem.assign (.Name c pc) env v) _ E s1
  refine wpAny_bind (wpAny_holding (wpAny_assign_Name (wpAny_mono h1 (fun _ s2 h2 => wpAny_bind (wpAny_holding (wpAny_assign_Name (wpAny_mono h2 (fun _ s3 h3 => wpAny_assign_Name (wpAny_mono h3 (fun _ s4 h4 => wpAny_pure h4) fun _ _ x => x)) fun _ _ x => x)))) fun _ _ x => x)))
theorem Ex1.assign3 {a b c : Str} {pa pb pc pos : Pos} {e : Expr} {d : D} (ha : storable sc a = true) (hb : storable sc b = true) (hc : storable sc c = true) (h : Ev G n sc ρ e d) :
    Ex1 G n sc ρ (.Assign [.Name a pa, .Name b pb, .Name c pc] e pos) (.nx (((ρ.set a (.fz d)).set b (.fz d)).set c (.fz d))) := by
  intro A env g Zg Z s Q E rm he S hq
  refine exec_Assign3 (h A env g Z s _ E rm he S.sees fun v Z1 s1 st1 hv => ?_)
  refine (S.step st1).storeFz (storable.kind ha he) hv fun h2 t2 S2 => ?_
  refine SeesF.storeFz (s := { s1 with heap := h2, toks := t2 }) S2 (storable.kind hb he) hv fun h3 t3 S3 => ?_
  refine SeesF.storeFz (s := { s1 with heap := h3, toks := t3 }) S3 (storable.kind hc he) hv fun h4 t4 S4 => ?_
  exact hq _ Z1 _ (st_tr st1.st ⟨h4, t4, rfl⟩) ⟨rfl, S4⟩
/-- a, b = e -/
theorem Ex1.unpack {xs : List (Str × Pos)} {ds : List D} {kk : Nat} {tp pos : Pos} {e : Expr} {d : D} (hd : d = .tup ds ∨ d = .list ds) (hl : xs.length = ds.length) (ok : okTgs sc (xs.map (·.1)) xs = true) (h : Ev G n sc ρ e d)
    (hs : ∀ env : Env, env.scope = sc → swapsWithSole [.Tuple (tgNames xs) kk tp] e pos.line env = pure false) (hw : ∀ env : Env, env.scope = sc → swappedStores [.Tuple (tgNames xs) kk tp] e env = pure none) :
    Ex1 G n sc ρ (.Assign [.Tuple (tgNames xs) kk tp] e pos) (.nx (setAll ρ (xs.map (·.1)) ds)) := by
  intro A env g Zg Z s Q E rm he S hq
  refine Assign_Tuple (h A env g Z s _ E rm he S.sees fun v Z1 s1 st1 hv => ?_) (hs env he) (hw env he)
  refine Sees.tgsAll (tgs := xs.map (·.1)) (xs := xs) (ds := ds) (kk := kk) (tp := tp) rm.hh he (S.sees.step st1) (by rcases hd with rfl | rfl; exact .inl hv; exact .inr hv) hl (okTgs.at_ ok) fun s2 u2 S2 => ?_
  exact hq _ Z1 s2 (st_tr st1.st u2.st) ⟨rfl, (S.step st1).ustep u2 S2⟩
/-- a, b = x, y: the stores are exchanged -/
theorem Ex1.swapped {a b : Str} {pa pb tp pos : Pos} {kk : Nat} {e : Expr} {d d' : D} (ok : okTgs sc [b, a] [(b, pb), (a, pa)] = true) (h : Ev G n sc ρ e (.tup [d, d']))
    (hs : ∀ env : Env, env.scope = sc → swapsWithSole [.Tuple [.Name a pa, .Name b pb] kk tp] e pos.line env = pure false) (hw : ∀ env : Env, env.scope = sc → swappedStores [.Tuple [.Name a pa, .Name b pb] kk tp] e env = pure (some [a, b])) :
    Ex1 G n sc ρ (.Assign [.Tuple [.Name a pa, .Name b pb] kk tp] e pos) (.nx ((ρ.set b (.fz d')).set a (.fz d))) := by
  intro A env g Zg Z s Q E rm he S hq
  refine Assign_Tuple_swapped (names := [a, b]) (h A env g Z s _ E rm he S.sees fun v Z1 s1 st1 hv => ?_) (hs env he) (hw env he)
  refine unpackItems_seq rm.hh st1.zin (.inl hv) rfl fun vs s2 st2 hvs => ?_
  obtain ⟨v1, vs1, rfl, h1, v2, vs2, rfl, h2, rfl⟩ := hvs
  have okk := okTgs.at_ ok
  refine assignInOrder_cons (bindName_ ((S.step (st1.trans st2)).storeFz (storable.kind (okk _ List.mem_cons_self).1 he) h2 fun h3 t3 S3 => ?_))
  refine assignInOrder_cons (bindName_ (SeesF.storeFz (s := { s2 with heap := h3, toks := t3 }) S3 (storable.kind (okk _ (List.mem_cons_of_mem _ List.mem_cons_self)).1 he) h1 fun h4 t4 S4 => ?_))
  exact assignInOrder_nil (hq _ Z1 _ (st_tr (st1.trans st2).st ⟨h4, t4, rfl⟩) ⟨rfl, S4⟩)
end
end M3
end
-- part C21
section
namespace M3
open PySem PySem.Calls PySem.Spec PyProof.Rows PySem.W PySem.SeqAt
mutual
def pd : D → PyData
  | .none => .none
  | .bool b => .bool b
  | .int i => .int i
  | .str x => .str x
  | .list l => .list (pds l)
  | .tup l => .tuple (pds l)
  | .inst .. => .dict []
  | .addr _ => .dict []
def pds : List D → List PyData
  | [] => []
  | d :: l => pd d :: pds l
end
mutual
/-- of one kind, all the way down -/
def pk : D → D → Bool
  | .none, .none => true
  | .bool _, .bool _ => true
  | .int _, .int _ => true
  | .str _, .str _ => true
  | .list l, .list m => pks l m
  | .tup l, .tup m => pks l m
  | _, _ => false
def pks : List D → List D → Bool
  | a :: l, b :: m => pk a b && pks l m
  | _, _ => true
end
mutual
def dep : D → Nat
  | .list l => deps l + 1
  | .tup l => deps l + 1
  | _ => 0
def deps : List D → Nat
  | [] => 0
  | d :: l => max (dep d) (deps l)
end
def deq (a b : D) : Bool := PyData.eqv (pd a) (pd b)
theorem pds_length : ∀ l : List D, (pds l).length = l.length
  | [] => rfl
  | d :: l => by simp [pds, pds_length l]
theorem SeqZ.inj {Z : Zm} {c : String} {a : Addr} {vs ws : List Value} (x : SeqZ Z c a vs) (y : SeqZ Z c a ws) : vs = ws := by
  obtain ⟨o, e, _, n, hd⟩ := x
  obtain ⟨o', e', _, n', hd'⟩ := y
  rw [e] at e'; cases e'
  rw [hd] at hd'; injection hd' with q _
  exact List.toArray_inj q
mutual
theorem deq_same {Z : Zm} : ∀ {a b : D} {v : Value}, Holds Z a v → Holds Z b v → pk a b = true → PyData.eqv (pd a) (pd b) = true
  | .none, b, v, ha, hb, k => by cases b <;> first | (cases k; done) | rfl
  | .bool x, b, v, ha, hb, k => by
    cases b <;> first | (cases k; done) | skip
    have : v = .bool x := ha
    subst this
    cases hb; simp [pd, PyData.eqv]
  | .int x, b, v, ha, hb, k => by
    cases b <;> first | (cases k; done) | skip
    obtain ⟨t, rfl⟩ := ha
    obtain ⟨u, e⟩ := hb
    cases e; simp [pd, PyData.eqv]
  | .str x, b, v, ha, hb, k => by
    cases b <;> first | (cases k; done) | skip
    obtain ⟨t, rfl⟩ := ha
    obtain ⟨u, e⟩ := hb
    cases e; simp [pd, PyData.eqv]
  | .list l, b, v, ha, hb, k => by
    cases b <;> first | (cases k; done) | skip
    obtain ⟨x, vs, rfl, hs, hh⟩ := ha
    obtain ⟨y, ws, e, hs', hh'⟩ := hb
    cases e
    cases hs.inj hs'
    exact deqs_same hh hh' k
  | .tup l, b, v, ha, hb, k => by
    cases b <;> first | (cases k; done) | skip
    obtain ⟨x, vs, rfl, hs, hh⟩ := ha
    obtain ⟨y, ws, e, hs', hh'⟩ := hb
    cases e
    cases hs.inj hs'
    exact deqs_same hh hh' k
  | .inst .., b, v, ha, hb, k => by cases b <;> cases k
  | .addr _, b, v, ha, hb, k => by cases b <;> cases k
theorem deqs_same {Z : Zm} : ∀ {l m : List D} {vs : List Value}, HoldsL Z l vs → HoldsL Z m vs → pks l m = true → PyData.eqvAll (pds l) (pds m) = true
  | [], m, vs, hl, hm, k => by
    have : vs = [] := hl
    subst this
    cases m with
    | nil => rfl
    | cons b m => obtain ⟨w, ws, e, _⟩ := hm; cases e
  | a :: l, m, vs, hl, hm, k => by
    obtain ⟨v, vs', rfl, ha, hr⟩ := hl
    cases m with
    | nil => cases hm
    | cons b m =>
      obtain ⟨w, ws, e, hb, hs⟩ := hm
      cases e
      simp only [pks, Bool.and_eq_true] at k
      simp only [pds, PyData.eqvAll, deq_same ha hb k.1, deqs_same hr hs k.2, Bool.and_self]
end
theorem units_in1 (A : Around) : A.in1.units = A.units + 1 := rfl
mutual
theorem eqAt {Z : Zm} {s : Shared} (zin : Zin Z s.heap) : ∀ {a b : D} {v w : Value} {A : Around}, Holds Z a v → Holds Z b w → pk a b = true → A.units + dep a < cLine → EqAt A s v w (PyData.eqv (pd a) (pd b))
  | .none, b, v, w, A, ha, hb, k, u => by
    cases b <;> first | (cases k; done) | skip
    have e1 : v = .none := ha
    have e2 : w = .none := hb
    subst e1; subst e2; exact EqAt.same _
  | .bool x, b, v, w, A, ha, hb, k, u => by
    cases b <;> first | (cases k; done) | skip
    have e1 : v = .bool x := ha
    subst e1; cases hb
    exact EqAt.bool_bool _ _
  | .int x, b, v, w, A, ha, hb, k, u => by
    cases b <;> first | (cases k; done) | skip
    obtain ⟨t, rfl⟩ := ha
    obtain ⟨u, rfl⟩ := hb
    exact EqAt.int_int _ _ _ _
  | .str x, b, v, w, A, ha, hb, k, u => by
    cases b <;> first | (cases k; done) | skip
    obtain ⟨t, rfl⟩ := ha
    obtain ⟨u, rfl⟩ := hb
    exact EqAt.str_str _ _ _ _
  | .list l, b, v, w, A, ha, hb, k, u => by
    cases b <;> first | (cases k; done) | skip
    rename_i m
    obtain ⟨x, vs, rfl, hs, hh⟩ := id ha
    obtain ⟨y, ws, rfl, hs', hh'⟩ := id hb
    by_cases hne : x = y
    · subst hne
      rw [deq_same ha hb k]; exact EqAt.same _
    · refine EqAt.of_refs hne ?_
      have n1 : vs.toArray.size = l.length := by simp [hh.length]
      have n2 : ws.toArray.size = m.length := by simp [hh'.length]
      have u' : A.in1.units + deps l < cLine := by rw [units_in1]; unfold dep at u; omega
      have he := fun j h1 h2 => eqAts zin (A := A.in1) hh hh' k u' j h1 h2
      show RcAt A s (.ref x) (.ref y) (PyData.eqvAll (pds l) (pds m))
      by_cases hsz : vs.toArray.size = ws.toArray.size
      · rw [← eqvAll_same_length (by rw [pds_length, pds_length]; omega), pds_length, ← n1]
        exact RcAt.lists (hs.list zin) (hs'.list zin) hsz (by omega) fun j h1 h2 => by simpa using he j (by simpa using h1) (by simpa using h2)
      · rw [eqvAll_other_length (by rw [pds_length, pds_length]; omega)]
        exact RcAt.lists_lengths (hs.list zin) (hs'.list zin) (by simpa using hsz) (by omega)
  | .tup l, b, v, w, A, ha, hb, k, u => by
    cases b <;> first | (cases k; done) | skip
    rename_i m
    obtain ⟨x, vs, rfl, hs, hh⟩ := id ha
    obtain ⟨y, ws, rfl, hs', hh'⟩ := id hb
    by_cases hne : x = y
    · subst hne
      rw [deq_same ha hb k]; exact EqAt.same _
    · refine EqAt.of_refs hne ?_
      have n1 : vs.toArray.size = l.length := by simp [hh.length]
      have n2 : ws.toArray.size = m.length := by simp [hh'.length]
      have u' : A.in1.units + deps l < cLine := by rw [units_in1]; unfold dep at u; omega
      have he := fun j h1 h2 => eqAts zin (A := A.in1) hh hh' k u' j h1 h2
      show RcAt A s (.ref x) (.ref y) (PyData.eqvAll (pds l) (pds m))
      rw [← eqvAll_eq (pds l) (pds m), pds_length, pds_length, ← n1, ← n2]
      exact RcAt.tuples (hs.tuple zin) (hs'.tuple zin) (by omega) fun j h1 h2 => by simpa using he j (by simpa using h1) (by simpa using h2)
  | .inst .., b, v, w, A, ha, hb, k, u => by cases b <;> cases k
  | .addr _, b, v, w, A, ha, hb, k, u => by cases b <;> cases k
theorem eqAts {Z : Zm} {s : Shared} (zin : Zin Z s.heap) : ∀ {l m : List D} {vs ws : List Value} {A : Around}, HoldsL Z l vs → HoldsL Z m ws → pks l m = true → A.units + deps l < cLine → ∀ j (h1 : j < vs.length) (h2 : j < ws.length), EqAt A s vs[j] ws[j] (pairEq (pds l) (pds m) j)
  | [], m, vs, ws, A, hl, hm, k, u, j, h1, h2 => by
    have : vs = [] := hl
    subst this; exact absurd h1 (Nat.not_lt_zero _)
  | a :: l, [], vs, ws, A, hl, hm, k, u, j, h1, h2 => by
    have : ws = [] := hm
    subst this; exact absurd h2 (Nat.not_lt_zero _)
  | a :: l, b :: m, _, _, A, ⟨v, vs, rfl, ha, hr⟩, ⟨w, ws, rfl, hb, hs⟩, k, u, 0, h1, h2 => by
    simp only [pks, Bool.and_eq_true] at k
    have u1 : A.units + dep a < cLine := by unfold deps at u; omega
    have := eqAt zin (A := A) ha hb k.1 u1
    simpa [pds, pairEq] using this
  | a :: l, b :: m, _, _, A, ⟨v, vs, rfl, ha, hr⟩, ⟨w, ws, rfl, hb, hs⟩, k, u, j + 1, h1, h2 => by
    simp only [pks, Bool.and_eq_true] at k
    have u1 : A.units + deps l < cLine := by unfold deps at u; omega
    have := eqAts zin (A := A) hr hs k.2 u1 j (by simpa using h1) (by simpa using h2)
    simpa [pds, pairEq] using this
end
end M3
end
-- part C22
section
namespace M3
open PySem PySem.Calls PySem.Spec PyProof.Rows PySem.W PySem.SeqAt
section
variable {G : Gc} {n : Nat} {sc : Scope} {ρ : Rho}
theorem rcAt {Z : Zm} {s : Shared} (zin : Zin Z s.heap) {l m : List D} {v w : Value} {A : Around} (ha : Holds Z (.list l) v) (hb : Holds Z (.list m) w) (k : pks l m = true) (u : A.units + (deps l + 1) < cLine) : RcAt A s v w (PyData.eqvAll (pds l) (pds m)) := by
  obtain ⟨x, vs, rfl, hs, hh⟩ := id ha
  obtain ⟨y, ws, rfl, hs', hh'⟩ := id hb
  have n1 : vs.toArray.size = l.length := by simp [hh.length]
  have n2 : ws.toArray.size = m.length := by simp [hh'.length]
  have u' : A.in1.units + deps l < cLine := by rw [units_in1]; omega
  have he := fun j h1 h2 => eqAts zin (A := A.in1) hh hh' k u' j h1 h2
  by_cases hsz : vs.toArray.size = ws.toArray.size
  · rw [← eqvAll_same_length (by rw [pds_length, pds_length]; omega), pds_length, ← n1]
    exact RcAt.lists (hs.list zin) (hs'.list zin) hsz (by omega) fun j h1 h2 => by simpa using he j (by simpa using h1) (by simpa using h2)
  · rw [eqvAll_other_length (by rw [pds_length, pds_length]; omega)]
    exact RcAt.lists_lengths (hs.list zin) (hs'.list zin) (by simpa using hsz) (by omega)
theorem rcNeAt {Z : Zm} {s : Shared} (zin : Zin Z s.heap) {l m : List D} {v w : Value} {A : Around} (ha : Holds Z (.list l) v) (hb : Holds Z (.list m) w) (k : pks l m = true) (u : A.units + (deps l + 1) < cLine) : RcNeAt A s v w (!PyData.eqvAll (pds l) (pds m)) := by
  obtain ⟨x, vs, rfl, hs, hh⟩ := id ha
  obtain ⟨y, ws, rfl, hs', hh'⟩ := id hb
  have n1 : vs.toArray.size = l.length := by simp [hh.length]
  have n2 : ws.toArray.size = m.length := by simp [hh'.length]
  have u' : A.in1.units + deps l < cLine := by rw [units_in1]; omega
  have he := fun j h1 h2 => eqAts zin (A := A.in1) hh hh' k u' j h1 h2
  by_cases hsz : vs.toArray.size = ws.toArray.size
  · rw [← eqvAll_same_length (by rw [pds_length, pds_length]; omega), pds_length, ← n1]
    exact RcNeAt.lists (hs.list zin) (hs'.list zin) hsz (by omega) fun j h1 h2 => by simpa using he j (by simpa using h1) (by simpa using h2)
  · rw [eqvAll_other_length (by rw [pds_length, pds_length]; omega)]
    exact RcNeAt.lists_lengths (hs.list zin) (hs'.list zin) (by simpa using hsz) (by omega)
theorem Cmp.eq_list {l m : List D} (k : pks l m = true) (u : deps l ≤ 40) : Cmp G (n + 1) .Eq (.list l) (.list m) (PyData.eqvAll (pds l) (pds m)) := by
  intro A Z s v w Q E r z0 zin ha hb h
  exact rcAt zin ha hb k (by have := r.hu; omega) G.prog G.w E Q (h Z s (PStep.refl zin))
theorem Cmp.ne_list {l m : List D} (k : pks l m = true) (u : deps l ≤ 40) : Cmp G (n + 1) .NotEq (.list l) (.list m) (!PyData.eqvAll (pds l) (pds m)) := by
  intro A Z s v w Q E r z0 zin ha hb h
  exact rcNeAt zin ha hb k (by have := r.hu; omega) G.prog G.w E Q (h Z s (PStep.refl zin))
theorem pks_nil (l : List D) : pks l [] = true := by cases l <;> rfl
theorem Cmp.eq_nil {l : List D} : Cmp G (n + 1) .Eq (.list l) (.list []) l.isEmpty := by
  intro A Z s v w Q E r z0 zin ha hb h
  obtain ⟨x, vs, rfl, hs, hh⟩ := id ha
  obtain ⟨y, ws, rfl, hs', hh'⟩ := id hb
  have : ws = [] := hh'
  subst this
  have hlen := hh.length
  have u : A.units < cLine := by have := r.hu; omega
  cases l with
  | nil =>
    have : vs = [] := hh
    subst this
    have := RcAt.lists (A := A) (s := s) (e := fun _ => true) (hs.list zin) (hs'.list zin) rfl u (fun j h1 => absurd h1 (Nat.not_lt_zero _))
    exact this G.prog G.w E Q (h Z s (PStep.refl zin))
  | cons d l =>
    exact RcAt.lists_lengths (hs.list zin) (hs'.list zin) (by simp at hlen ⊢; intro q; simp [q] at hlen) u G.prog G.w E Q (h Z s (PStep.refl zin))
theorem Cmp.eq_tup {l m : List D} (k : pks l m = true) (u : deps l ≤ 40) : Cmp G (n + 1) .Eq (.tup l) (.tup m) (PyData.eqvAll (pds l) (pds m)) := by
  intro A Z s v w Q E r z0 zin ha hb h
  obtain ⟨x, vs, rfl, hs, hh⟩ := id ha
  obtain ⟨y, ws, rfl, hs', hh'⟩ := id hb
  have n1 : vs.toArray.size = l.length := by simp [hh.length]
  have n2 : ws.toArray.size = m.length := by simp [hh'.length]
  have hu := r.hu
  have u' : A.in1.units + deps l < cLine := by rw [units_in1]; omega
  have he := fun j h1 h2 => eqAts zin (A := A.in1) hh hh' k u' j h1 h2
  refine eq_tupleAt (hs.tuple zin) (hs'.tuple zin) (by omega) (e := pairEq (pds l) (pds m)) (fun j h1 h2 => by simpa using he j (by simpa using h1) (by simpa using h2)) ?_
  have := eqvAll_eq (pds l) (pds m)
  rw [pds_length, pds_length, ← n1, ← n2] at this
  rw [this]; exact h Z s (PStep.refl zin)
/-- the data behind an item -/
theorem HoldsL.mem {Z : Zm} : ∀ {l : List D} {vs : List Value}, HoldsL Z l vs → ∀ v ∈ vs, ∃ d ∈ l, Holds Z d v
  | [], vs, h, v, hv => by
    have : vs = [] := h
    subst this; cases hv
  | d :: l, _, ⟨w, ws, rfl, hd, hr⟩, v, hv => by
    rcases List.mem_cons.mp hv with rfl | hv
    · exact ⟨d, List.mem_cons_self, hd⟩
    · obtain ⟨e, he, hh⟩ := HoldsL.mem hr v hv
      exact ⟨e, List.mem_cons_of_mem _ he, hh⟩
open Classical in
theorem any_data {Z : Zm} {x : D} : ∀ {l : List D} {vs : List Value}, HoldsL Z l vs → ∀ (e : Value → Bool), (∀ d v, d ∈ l → Holds Z d v → e v = deq d x) → vs.any e = l.any (deq · x)
  | [], vs, h, e, he => by
    have : vs = [] := h
    subst this; rfl
  | d :: l, _, ⟨w, ws, rfl, hd, hr⟩, e, he => by
    rw [List.any_cons, List.any_cons, he d w List.mem_cons_self hd, any_data hr e fun d' v' m hh => he d' v' (List.mem_cons_of_mem _ m) hh]
open Classical in
/-- which items equal x: any data that the item holds tells it -/
noncomputable def hit (Z : Zm) (l : List D) (x : D) (v : Value) : Bool := if h : ∃ d ∈ l, Holds Z d v then deq h.choose x else false
theorem hit_eq {Z : Zm} {l : List D} {x : D} {v : Value} {d : D} (hd : d ∈ l) (hv : Holds Z d v) (hk : ∀ d ∈ l, ∀ e ∈ l, pk d e = true) (hkx : ∀ d ∈ l, ∀ e ∈ l, deq d e = true → deq d x = deq e x) : hit Z l x v = deq d x := by
  have h : ∃ d ∈ l, Holds Z d v := ⟨d, hd, hv⟩
  unfold hit
  rw [dif_pos h]
  exact hkx _ h.choose_spec.1 _ hd (deq_same h.choose_spec.2 hv (hk _ h.choose_spec.1 _ hd))
theorem Cmp.in_ {l : List D} {x : D} (hx : ∀ d ∈ l, pk d x = true) (hu : ∀ d ∈ l, dep d ≤ 40) (hk : ∀ d ∈ l, ∀ e ∈ l, pk d e = true) (hkx : ∀ d ∈ l, ∀ e ∈ l, deq d e = true → deq d x = deq e x) :
    Cmp G (n + 1) .In x (.list l) (l.any (deq · x)) := by
  intro A Z s v w Q E r z0 zin ha hb h
  obtain ⟨y, ws, rfl, hs, hh⟩ := id hb
  have ur := r.hu
  refine in_listAt (hit Z l x) (hs.list zin) (fun y hy => ?_) ?_
  · obtain ⟨d, hd, hv⟩ := hh.mem y (by simpa using hy)
    rw [hit_eq hd hv hk hkx]
    exact eqAt zin hv ha (hx d hd) (by rw [units_in1]; have := hu d hd; omega)
  · have := any_data (x := x) hh (hit Z l x) fun d v m hv => hit_eq m hv hk hkx
    rw [show ws.toArray.any (hit Z l x) = ws.any (hit Z l x) by simp, this]
    exact h Z s (PStep.refl zin)
theorem Cmp.notIn {l : List D} {x : D} (hx : ∀ d ∈ l, pk d x = true) (hu : ∀ d ∈ l, dep d ≤ 40) (hk : ∀ d ∈ l, ∀ e ∈ l, pk d e = true) (hkx : ∀ d ∈ l, ∀ e ∈ l, deq d e = true → deq d x = deq e x) :
    Cmp G (n + 1) .NotIn x (.list l) (!l.any (deq · x)) := by
  intro A Z s v w Q E r z0 zin ha hb h
  obtain ⟨y, ws, rfl, hs, hh⟩ := id hb
  have ur := r.hu
  refine notIn_listAt (hit Z l x) (hs.list zin) (fun y hy => ?_) ?_
  · obtain ⟨d, hd, hv⟩ := hh.mem y (by simpa using hy)
    rw [hit_eq hd hv hk hkx]
    exact eqAt zin hv ha (hx d hd) (by rw [units_in1]; have := hu d hd; omega)
  · have := any_data (x := x) hh (hit Z l x) fun d v m hv => hit_eq m hv hk hkx
    rw [show ws.toArray.any (hit Z l x) = ws.any (hit Z l x) by simp, this]
    exact h Z s (PStep.refl zin)
end
-- typed data
def dI (l : List Int) : List D := l.map D.int
def dS (l : List Str) : List D := l.map D.str
def dIs (l : List (List Int)) : List D := l.map fun x => D.list (dI x)
theorem pks_int : ∀ l m : List Int, pks (dI l) (dI m) = true
  | [], _ => rfl
  | _ :: _, [] => rfl
  | a :: l, b :: m => by simpa [dI, pks, pk] using pks_int l m
theorem pks_str : ∀ l m : List Str, pks (dS l) (dS m) = true
  | [], _ => rfl
  | _ :: _, [] => rfl
  | a :: l, b :: m => by simpa [dS, pks, pk] using pks_str l m
theorem deps_int : ∀ l : List Int, deps (dI l) = 0
  | [] => rfl
  | a :: l => by simpa [dI, deps, dep] using deps_int l
theorem deps_str : ∀ l : List Str, deps (dS l) = 0
  | [] => rfl
  | a :: l => by simpa [dS, deps, dep] using deps_str l
theorem eqv_int : ∀ l m : List Int, PyData.eqvAll (pds (dI l)) (pds (dI m)) = (l == m)
  | [], [] => rfl
  | [], _ :: _ => rfl
  | _ :: _, [] => rfl
  | a :: l, b :: m => by
    have := eqv_int l m
    simp only [dI, List.map_cons, pds, pd, PyData.eqvAll, PyData.eqv] at this ⊢
    rw [this, List.cons_beq_cons]
theorem eqv_str : ∀ l m : List Str, PyData.eqvAll (pds (dS l)) (pds (dS m)) = (l == m)
  | [], [] => rfl
  | [], _ :: _ => rfl
  | _ :: _, [] => rfl
  | a :: l, b :: m => by
    have := eqv_str l m
    simp only [dS, List.map_cons, pds, pd, PyData.eqvAll, PyData.eqv] at this ⊢
    rw [this, List.cons_beq_cons]
theorem deq_ints (l m : List Int) : deq (.list (dI l)) (.list (dI m)) = (l == m) := by
  show PyData.eqv (.list (pds (dI l))) (.list (pds (dI m))) = _
  rw [PyData.eqv]; exact eqv_int l m
section
variable {G : Gc} {n : Nat} {sc : Scope} {ρ : Rho}
theorem Cmp.in_int {l : List Int} {x : Int} : Cmp G (n + 1) .In (.int x) (.list (dI l)) (l.contains x) := by
  have h := Cmp.in_ (G := G) (n := n) (l := dI l) (x := .int x) (fun d hd => by obtain ⟨i, _, rfl⟩ := List.mem_map.mp hd; rfl) (fun d hd => by obtain ⟨i, _, rfl⟩ := List.mem_map.mp hd; exact Nat.zero_le _)
    (fun d hd e he => by obtain ⟨i, _, rfl⟩ := List.mem_map.mp hd; obtain ⟨j, _, rfl⟩ := List.mem_map.mp he; rfl)
    (fun d hd e he q => by obtain ⟨i, _, rfl⟩ := List.mem_map.mp hd; obtain ⟨j, _, rfl⟩ := List.mem_map.mp he; simp [deq, pd, PyData.eqv] at q; rw [q])
  have e : (dI l).any (deq · (.int x)) = l.contains x := by
    unfold dI
    rw [List.any_map]
    induction l with
    | nil => rfl
    | cons a l ih => 
      rw [List.any_cons, List.contains_cons]
      have : (l.any ((fun x_1 => deq x_1 (D.int x)) ∘ D.int)) = l.contains x := by
        have := ih ?_
        · exact this
        · exact Cmp.in_ (fun d hd => by obtain ⟨i, _, rfl⟩ := List.mem_map.mp hd; rfl) (fun d hd => by obtain ⟨i, _, rfl⟩ := List.mem_map.mp hd; exact Nat.zero_le _)
            (fun d hd e he => by obtain ⟨i, _, rfl⟩ := List.mem_map.mp hd; obtain ⟨j, _, rfl⟩ := List.mem_map.mp he; rfl)
            (fun d hd e he q => by obtain ⟨i, _, rfl⟩ := List.mem_map.mp hd; obtain ⟨j, _, rfl⟩ := List.mem_map.mp he; simp [deq, pd, PyData.eqv] at q; rw [q])
      rw [this]
      congr 1
      simp only [Function.comp, deq, pd, PyData.eqv]
      exact Bool.beq_comm
  rw [e] at h; exact h
end
end M3
end
-- part C23
section
namespace M3
open PySem PySem.Calls PySem.Spec PyProof.Rows PySem.W
theorem HoldsL.take {Z : Zm} : ∀ {l : List D} {vs : List Value} (k : Nat), HoldsL Z l vs → HoldsL Z (l.take k) (vs.take k)
  | _, _, 0, _ => by simp [HoldsL]
  | [], vs, k + 1, h => by
    have : vs = [] := h
    subst this; simp [HoldsL]
  | d :: l, _, k + 1, ⟨v, vs, rfl, hd, hr⟩ => ⟨v, vs.take k, rfl, hd, HoldsL.take k hr⟩
theorem HoldsL.drop {Z : Zm} : ∀ {l : List D} {vs : List Value} (k : Nat), HoldsL Z l vs → HoldsL Z (l.drop k) (vs.drop k)
  | _, _, 0, h => by simpa using h
  | [], vs, k + 1, h => by
    have : vs = [] := h
    subst this; simp [HoldsL]
  | d :: l, _, k + 1, ⟨v, vs, rfl, hd, hr⟩ => by simpa using HoldsL.drop k hr
theorem HoldsL.rep {Z : Zm} {l : List D} {vs : List Value} (h : HoldsL Z l vs) : ∀ k : Nat, HoldsL Z (List.replicate k l).flatten (List.replicate k vs).flatten
  | 0 => by simp [HoldsL]
  | k + 1 => by simpa [List.replicate_succ] using h.append (HoldsL.rep h k)
def isSlice : Expr → Bool
  | .Slice .. => true
  | _ => false
theorem subscripted_plain {slice : Expr} (h : isSlice slice = false) (o i : Value) : subscripted slice false o i = operate [o, i] (getItem o i) := by
  cases slice <;> first | (cases h; done) | rfl
theorem tail_ {prog : Program} {w : World} {A : Around} {E : Value → Shared → Prop} {s : Shared} {value slice : Expr} {o i : Value} {T id : String} {Q : Value → Shared → Prop} (hsl : isSlice slice = false) (hT : s.TypeIs o T)
    (hl : typeLookup (.type T) "__getitem__" = pure (some (.builtin id))) (h : wpAny (model prog w) A (getItem o i) Q E s) : wpAny (model prog w) A (subscriptTail value slice o i) Q E s := by
  unfold subscriptTail
  refine wpAny_bind ?_
  rw [getitemInPython_of_ne hT.not_modules]
  refine wpAny_bind (wpAny_specialOf hT hl ?_)
  have fin : wpAny (model prog w) A (subscripted slice false o i) (fun r s₃ => wpAny (model prog w) A (letTemporaryGo value o r >>= fun _ => pure r) Q E s₃) E s := by
    rw [subscripted_plain hsl]
    exact wpAny_operating (wpAny_mono h (fun r s₃ h₃ => wpAny_bind (wpAny_letTemporaryGo (wpAny_pure h₃))) fun _ _ x => x)
  first
    | exact wpAny_pure (wpAny_bind fin)
    | exact wpAny_bind (wpAny_pure (wpAny_bind fin))
    | exact wpAny_bind fin
section
variable (G : Gc)
/-- the item of a value -/
def Sub (n : Nat) (a b d : D) : Prop := ∃ T id, typeLookup (.type T) "__getitem__" = pure (some (.builtin id)) ∧
  ∀ (A : Around) (Z : Zm) (s : Shared) (v w : Value) (Q : Value → Shared → Prop) (E : Value → Shared → Prop), Room n A → G.Z0 Z → Zin Z s.heap → Holds Z a v → Holds Z b w → s.TypeIs v T ∧
    ((∀ r Z' s', PStep Z s Z' s' → Holds Z' d r → Q r s') → wpAny (model G.prog G.w) A (getItem v w) Q E s)
end
section
variable {G : Gc} {n : Nat} {sc : Scope} {ρ : Rho}
theorem Ev.sub {value slice : Expr} {pos : Pos} {a b d : D} (hsl : isSlice slice = false) (x : Ev G n sc ρ value a) (y : Ev G n sc ρ slice b) (o : Sub G n a b d) : Ev G n sc ρ (.Subscript value slice pos) d := by
  intro A env g Z s Q E rm he S h
  obtain ⟨T, id, hl, o⟩ := o
  refine Subscript_ (x A env g Z s _ E rm he S fun v Z1 s1 st1 hv => y A env g Z1 s1 _ E rm he (S.step st1) fun w Z2 s2 st2 hw => ?_)
  have hv2 := Holds.mono st2.z hv
  have S2 := (S.step st1).step st2
  have key := fun Q => o A Z2 s2 v w Q E rm S2.z0 st2.zin hv2 hw
  exact tail_ hsl (key Q).1 hl ((key Q).2 fun r Z3 s3 st3 hr => h r Z3 s3 ((st1.trans st2).trans st3) hr)
theorem Sub.list {l : List D} {k : Int} {d : D} (h0 : 0 ≤ k) (hk : k < 2 ^ 63) (hd : l[k.toNat]? = some d) : Sub G n (.list l) (.int k) d := by
  refine ⟨"list", _, slot_list_getitem.lookup, fun A Z s v w Q E rm z0 zin hv hw => ?_⟩
  obtain ⟨a, vs, rfl, hs, hh⟩ := hv
  obtain ⟨t, rfl⟩ := hw
  refine ⟨(hs.list zin).typeIs, fun h => ?_⟩
  obtain ⟨v, ev, hv⟩ := hh.get hd
  exact wpAny_getItem_list (hs.list zin) h0 hk (by simpa using ev) (h v Z s (PStep.refl zin) hv)
theorem Sub.tup {l : List D} {k : Int} {d : D} (h0 : 0 ≤ k) (hk : k < 2 ^ 63) (hd : l[k.toNat]? = some d) : Sub G n (.tup l) (.int k) d := by
  refine ⟨"tuple", _, slot_tuple_getitem.lookup, fun A Z s v w Q E rm z0 zin hv hw => ?_⟩
  obtain ⟨a, vs, rfl, hs, hh⟩ := hv
  obtain ⟨t, rfl⟩ := hw
  refine ⟨(hs.tuple zin).typeIs, fun h => ?_⟩
  obtain ⟨v, ev, hv⟩ := hh.get hd
  have hlt : k.toNat < l.length := by
    rcases Nat.lt_or_ge k.toNat l.length with q | q
    · exact q
    · rw [List.getElem?_eq_none q] at hd; cases hd
  have ht : IsTup s.heap a vs.toArray := hs.tuple zin
  refine PyProof.Rows.getItem_tuple (j := k.toNat) ht (by omega) hk ?_ (by simpa using ev) (h v Z s (PStep.refl zin) hv)
  have hlen := hh.length
  unfold seqIndex?
  have : ¬ k < 0 := by omega
  simp only [List.size_toArray, hlen]
  grind
/-- an item of a list of the frame's own -/
theorem Ev.subOwn {x : Str} {px pos : Pos} {slice : Expr} {l : List D} {k : Int} {d : D} (hsl : isSlice slice = false) (ok : okName x = true) (hx : ρ.lookup x = some (.own l)) (y : Ev G n sc ρ slice (.int k)) (h0 : 0 ≤ k) (hk : k < 2 ^ 63) (hd : l[k.toNat]? = some d) :
    Ev G n sc ρ (.Subscript (.Name x px) slice pos) d := by
  intro A env g Z s Q E rm he S h
  obtain ⟨h1, h2⟩ := Bool.and_eq_true_iff.mp ok
  refine Subscript_ (wpAny_Name (S.load hx (fun v o _ hs => ?_) (by simpa using h2)) (by simpa using h1))
  obtain ⟨a, vs, _, rfl, hz, hl, hh⟩ := hs
  refine y A env g Z s _ E rm he S fun w Z2 s2 st2 hw => ?_
  obtain ⟨t, rfl⟩ := hw
  have hl2 := (IsList.keeps hl st2.keep).list
  obtain ⟨v, ev, hv⟩ := hh.get hd
  exact tail_ hsl hl2.typeIs slot_list_getitem.lookup (wpAny_getItem_list hl2 h0 hk (by simpa using ev) (h v Z2 s2 st2 (Holds.mono st2.z hv)))
theorem fresh_st {s s1 : Shared} {Z Z1 : Zm} (st : PStep Z s Z1 s1) : s.heap.get? s1.heap.objs.size = none := none_of_keep st.keep fresh_none
/-- a new list on top of a pure step -/
theorem newL {s s1 : Shared} {Z Z1 : Zm} {vs : List Value} {l : List D} {Q : Value → Shared → Prop} (st : PStep Z s Z1 s1) (hh : HoldsL Z1 l vs)
    (h : ∀ a vs Z' s', PStep Z s Z' s' → s.heap.get? a = none → Z' a = none → PL s'.heap a vs.toArray → HoldsL Z' l vs → Q (.ref a) s') (tk : Nat) :
    Q (.ref s1.heap.objs.size) { s1 with heap := s1.heap.push { cls := .type "list", data := .seq vs.toArray }, toks := tk } :=
  h _ vs Z1 _ (st.trans (PStep.same (h' := s1.heap.push _) (tk := tk) st.zin fun _ _ e => Heap.get?_push_of_some _ e)) (fresh_st st) (st.zin.none fresh_none) ⟨_, Heap.get?_push_size _ rfl, ⟨rfl, rfl, rfl⟩, _, rfl⟩ hh
theorem newL2 {s s1 : Shared} {Z Z1 : Zm} {vs : List Value} {l : List D} {o : Obj} {Q : Value → Shared → Prop} (st : PStep Z s Z1 s1) (hh : HoldsL Z1 l vs)
    (h : ∀ a vs Z' s', PStep Z s Z' s' → s.heap.get? a = none → Z' a = none → PL s'.heap a vs.toArray → HoldsL Z' l vs → Q (.ref a) s') :
    Q (.ref (s1.heap.objs.size + 1)) { s1 with heap := (s1.heap.push o).push { cls := .type "list", data := .seq vs.toArray } } := by
  have st2 : PStep Z s Z1 { s1 with heap := s1.heap.push o } := st.trans (PStep.same (h' := s1.heap.push o) (tk := s1.toks) st.zin fun _ _ e => Heap.get?_push_of_some _ e)
  have := newL (Q := Q) st2 hh h s1.toks
  rw [show ({ s1 with heap := s1.heap.push o } : Shared).heap.objs.size = s1.heap.objs.size + 1 from Heap.size_push ..] at this
  exact this
/-- value[:k] -/
theorem EvL.upto {value e : Expr} {p pos : Pos} {l : List D} {k : Nat} (x : Ev G n sc ρ value (.list l)) (y : Ev G n sc ρ e (.int k)) (hl : l.length ≤ 100000) : EvL G n sc ρ (.Subscript value (.Slice none (some e) none p) pos) (l.take k) := by
  intro A env g Z s Q E rm he S h
  refine Subscript_ (x A env g Z s _ E rm he S fun v Z1 s1 st1 hv => ?_)
  refine wpAny_Slice (wpAny_pure ?_)
  refine y A env g Z1 s1 _ E rm he (S.step st1) fun w Z2 s2 st2 hw => ?_
  refine wpAny_pure ?_
  obtain ⟨t, rfl⟩ := hw
  obtain ⟨a, vs, rfl, hs, hh⟩ := Holds.mono st2.z hv
  have hlist := hs.list st2.zin
  have hlen := hh.length
  show wpAny _ _ (subscriptTail value (.Slice none (some e) none p) (.ref a) (.ref s2.heap.objs.size)) Q E _
  unfold subscriptTail
  refine wpAny_bind ?_
  have hTy := Heap.IsList.typeIs (s := { s2 with heap := s2.heap.push { cls := .type "slice", data := .fields #[.none, .int k t, .none] } }) (hlist.push _)
  rw [getitemInPython_of_ne hTy.not_modules]
  refine wpAny_bind (wpAny_specialOf hTy slot_list_getitem.lookup ?_)
  have fin : wpAny (model G.prog G.w) A (subscripted (.Slice none (some e) none p) false (.ref a) (.ref s2.heap.objs.size)) (fun r s₃ => wpAny (model G.prog G.w) A (letTemporaryGo value (.ref a) r >>= fun _ => pure r) Q E s₃) E { s2 with heap := s2.heap.push { cls := .type "slice", data := .fields #[.none, .int k t, .none] } } := by
    show wpAny _ _ (operate [.ref s2.heap.objs.size, .ref a] (getItem (.ref a) (.ref s2.heap.objs.size))) _ _ _
    refine wpAny_operating (wpAny_getItem_list_slice (hlist.push _) (Heap.IsSliceOf.new ..) .none (.int _ _) .none (by simp) ?_ (by rw [List.size_toArray, hlen]; exact Nat.le_trans hl (by decide)))
    refine wpAny_bind (wpAny_letTemporaryGo (wpAny_pure ?_))
    rw [slicePick_upto']
    rw [show ({ s2 with heap := s2.heap.push { cls := .type "slice", data := .fields #[.none, .int k t, .none] } } : Shared).heap.objs.size = s2.heap.objs.size + 1 from Heap.size_push ..]
    exact newL2 (st1.trans st2) (by simpa using hh.take k) h
  first
    | exact wpAny_pure (wpAny_bind fin)
    | exact wpAny_bind (wpAny_pure (wpAny_bind fin))
    | exact wpAny_bind fin
/-- value[k:] -/
theorem EvL.from_ {value e : Expr} {p pos : Pos} {l : List D} {k : Nat} (x : Ev G n sc ρ value (.list l)) (y : Ev G n sc ρ e (.int k)) (hl : l.length ≤ 100000) : EvL G n sc ρ (.Subscript value (.Slice (some e) none none p) pos) (l.drop k) := by
  intro A env g Z s Q E rm he S h
  refine Subscript_ (x A env g Z s _ E rm he S fun v Z1 s1 st1 hv => ?_)
  refine wpAny_Slice ?_
  refine y A env g Z1 s1 _ E rm he (S.step st1) fun w Z2 s2 st2 hw => ?_
  refine wpAny_pure (wpAny_pure ?_)
  obtain ⟨t, rfl⟩ := hw
  obtain ⟨a, vs, rfl, hs, hh⟩ := Holds.mono st2.z hv
  have hlist := hs.list st2.zin
  have hlen := hh.length
  show wpAny _ _ (subscriptTail value (.Slice (some e) none none p) (.ref a) (.ref s2.heap.objs.size)) Q E _
  unfold subscriptTail
  refine wpAny_bind ?_
  have hTy := Heap.IsList.typeIs (s := { s2 with heap := s2.heap.push { cls := .type "slice", data := .fields #[.int k t, .none, .none] } }) (hlist.push _)
  rw [getitemInPython_of_ne hTy.not_modules]
  refine wpAny_bind (wpAny_specialOf hTy slot_list_getitem.lookup ?_)
  have fin : wpAny (model G.prog G.w) A (subscripted (.Slice (some e) none none p) false (.ref a) (.ref s2.heap.objs.size)) (fun r s₃ => wpAny (model G.prog G.w) A (letTemporaryGo value (.ref a) r >>= fun _ => pure r) Q E s₃) E { s2 with heap := s2.heap.push { cls := .type "slice", data := .fields #[.int k t, .none, .none] } } := by
    show wpAny _ _ (operate [.ref s2.heap.objs.size, .ref a] (getItem (.ref a) (.ref s2.heap.objs.size))) _ _ _
    refine wpAny_operating (wpAny_getItem_list_slice (hlist.push _) (Heap.IsSliceOf.new ..) (.int _ _) .none .none (by simp) ?_ (by rw [List.size_toArray, hlen]; exact Nat.le_trans hl (by decide)))
    refine wpAny_bind (wpAny_letTemporaryGo (wpAny_pure ?_))
    rw [slicePick_from']
    rw [show ({ s2 with heap := s2.heap.push { cls := .type "slice", data := .fields #[.int k t, .none, .none] } } : Shared).heap.objs.size = s2.heap.objs.size + 1 from Heap.size_push ..]
    exact newL2 (st1.trans st2) (by simpa using hh.drop k) h
  first
    | exact wpAny_pure (wpAny_bind fin)
    | exact wpAny_bind (wpAny_pure (wpAny_bind fin))
    | exact wpAny_bind fin
/-- value[:] -/
theorem EvL.all_ {value : Expr} {p pos : Pos} {l : List D} (x : Ev G n sc ρ value (.list l)) (hl : l.length ≤ 100000) : EvL G n sc ρ (.Subscript value (.Slice none none none p) pos) l := by
  intro A env g Z s Q E rm he S h
  refine Subscript_ (x A env g Z s _ E rm he S fun v Z2 s2 st2 hv => ?_)
  refine wpAny_Slice (wpAny_pure (wpAny_pure (wpAny_pure ?_)))
  obtain ⟨a, vs, rfl, hs, hh⟩ := hv
  have hlist := hs.list st2.zin
  have hlen := hh.length
  show wpAny _ _ (subscriptTail value (.Slice none none none p) (.ref a) (.ref s2.heap.objs.size)) Q E _
  unfold subscriptTail
  refine wpAny_bind ?_
  have hTy := Heap.IsList.typeIs (s := { s2 with heap := s2.heap.push { cls := .type "slice", data := .fields #[.none, .none, .none] } }) (hlist.push _)
  rw [getitemInPython_of_ne hTy.not_modules]
  refine wpAny_bind (wpAny_specialOf hTy slot_list_getitem.lookup ?_)
  have fin : wpAny (model G.prog G.w) A (subscripted (.Slice none none none p) false (.ref a) (.ref s2.heap.objs.size)) (fun r s₃ => wpAny (model G.prog G.w) A (letTemporaryGo value (.ref a) r >>= fun _ => pure r) Q E s₃) E { s2 with heap := s2.heap.push { cls := .type "slice", data := .fields #[.none, .none, .none] } } := by
    show wpAny _ _ (operate [.ref s2.heap.objs.size, .ref a] (getItem (.ref a) (.ref s2.heap.objs.size))) _ _ _
    refine wpAny_operating (wpAny_getItem_list_slice (hlist.push _) (Heap.IsSliceOf.new ..) .none .none .none (by simp) ?_ (by rw [List.size_toArray, hlen]; exact Nat.le_trans hl (by decide)))
    refine wpAny_bind (wpAny_letTemporaryGo (wpAny_pure ?_))
    rw [slicePick_all]
    rw [show ({ s2 with heap := s2.heap.push { cls := .type "slice", data := .fields #[.none, .none, .none] } } : Shared).heap.objs.size = s2.heap.objs.size + 1 from Heap.size_push ..]
    exact newL2 st2 hh h
  first
    | exact wpAny_pure (wpAny_bind fin)
    | exact wpAny_bind (wpAny_pure (wpAny_bind fin))
    | exact wpAny_bind fin
/-- e₁ + e₂ of lists -/
theorem EvL.add {e₁ e₂ : Expr} {pos : Pos} {l m : List D} (x : Ev G n sc ρ e₁ (.list l)) (y : Ev G n sc ρ e₂ (.list m)) (hl : l.length + m.length ≤ 100000) : EvL G n sc ρ (.BinOp e₁ .Add e₂ pos) (l ++ m) := by
  intro A env g Z s Q E rm he S h
  refine wpAny_BinOp (x A env g Z s _ E rm he S fun v Z1 s1 st1 hv => y A env g Z1 s1 _ E rm he (S.step st1) fun w Z2 s2 st2 hw => ?_)
  obtain ⟨a, vs, rfl, hs, hh⟩ := Holds.mono st2.z hv
  obtain ⟨b, ws, rfl, hs', hh'⟩ := hw
  obtain ⟨k, ek⟩ := (hs.pl st2.zin).isL
  obtain ⟨k', ek'⟩ := (hs'.pl st2.zin).isL
  refine P.add_list ek ek' ?_ (by simp [hh.length, hh'.length]; exact Nat.le_trans hl (by decide))
  have := newL (Q := Q) (st1.trans st2) (hh.append hh') h s2.toks
  simpa using this
/-- e₁ * e₂ -/
theorem EvL.mul {e₁ e₂ : Expr} {pos : Pos} {l : List D} {k : Int} (x : Ev G n sc ρ e₁ (.list l)) (y : Ev G n sc ρ e₂ (.int k)) (hlo : -(2 ^ 63 : Int) ≤ k) (hhi : k < 2 ^ 63) (hl : l.length * k.toNat ≤ 100000) : EvL G n sc ρ (.BinOp e₁ .Mult e₂ pos) (List.replicate k.toNat l).flatten := by
  intro A env g Z s Q E rm he S h
  refine wpAny_BinOp (x A env g Z s _ E rm he S fun v Z1 s1 st1 hv => y A env g Z1 s1 _ E rm he (S.step st1) fun w Z2 s2 st2 hw => ?_)
  obtain ⟨a, vs, rfl, hs, hh⟩ := Holds.mono st2.z hv
  obtain ⟨t, rfl⟩ := hw
  obtain ⟨c, ek⟩ := (hs.pl st2.zin).isL
  have hsz' : vs.toArray.size * k.toNat ≤ 2 ^ 24 := by simp [hh.length]; exact Nat.le_trans hl (by decide)
  refine wpAny_binaryOp_repeat_ref (T := "list") (U := "int") (by decide) ⟨_, ek, rfl⟩ (fun s' => typeIs_int s' k t) noFill_list_mul F.fills_int_mul F.slot_int_rmul repeat_list F.slot_int_index.lookup
    (call_meets F.slot_int_rmul (typeIs_int s2 k t) F.entry_int_rmul (F.args_int_rmul_2 _ _) (lm_int_rmul_list_any k t a vs.toArray c _ _)
      ⟨ek, rfl, ⟨_, ek, rfl⟩, call_meets F.slot_list_mul ⟨_, ek, rfl⟩ F.entry_list_mul (F.args_list_mul_2 _ _)
        (lm_list_mul_any a vs.toArray c _ _ k t (by simp [Builtin.List.listFitsIndex]; omega) (by omega) (by simp [Builtin.List.listTooLong, sizeLine]; simp at hsz'; omega))
        ⟨ek, ?_⟩⟩)
  rw [listMul_foldl_if]
  exact newL (Q := Q) (st1.trans st2) (hh.rep k.toNat) h s2.toks
end
end M3
end
-- part C24
section
namespace M3
open PySem PySem.Calls PySem.Spec PyProof.Rows PySem.W PySem.Builtin PySem.Builtin.Str
theorem HoldsL.strs {Z : Zm} : ∀ {l : List Str} {vs : List Value}, HoldsL Z (dS l) vs → StrsAre vs l
  | [], vs, h => by
    have : vs = [] := h
    subst this; exact .nil
  | x :: l, vs, h => by
    obtain ⟨v, vs', rfl, ⟨t, rfl⟩, hr⟩ := h
    exact .cons x t (HoldsL.strs hr)
theorem HoldsL.ofStrs {Z : Zm} : ∀ {l : List Str} {vs : List Value}, StrsAre vs l → HoldsL Z (dS l) vs
  | _, _, .nil => rfl
  | _, _, .cons y t r => ⟨_, _, rfl, ⟨t, rfl⟩, HoldsL.ofStrs r⟩
theorem HoldsL.ints {Z : Zm} : ∀ {l : List Int} {vs : List Value}, HoldsL Z (dI l) vs → IntsAre vs l
  | [], vs, h => by
    have : vs = [] := h
    subst this; exact .nil
  | x :: l, vs, h => by
    obtain ⟨v, vs', rfl, ⟨t, rfl⟩, hr⟩ := h
    exact .cons x t (HoldsL.ints hr)
theorem HoldsL.ofInts {Z : Zm} : ∀ {l : List Int} {vs : List Value}, IntsAre vs l → HoldsL Z (dI l) vs
  | _, _, .nil => rfl
  | _, _, .cons y t r => ⟨_, _, rfl, ⟨t, rfl⟩, HoldsL.ofInts r⟩
theorem strsAre_strValues : ∀ l : List (Str × Tok), StrsAre (strValues l) (l.map (·.1))
  | [] => .nil
  | p :: l => .cons p.1 p.2 (strsAre_strValues l)
theorem intItems_of {Z : Zm} : ∀ {l : List Int} {vs : List Value}, HoldsL Z (dI l) vs → ∃ xs : List (Int × Tok), vs = xs.map (fun p => .int p.1 p.2) ∧ xs.map (·.1) = l
  | [], vs, h => by
    have : vs = [] := h
    exact ⟨[], this, rfl⟩
  | x :: l, vs, h => by
    obtain ⟨v, vs', rfl, ⟨t, rfl⟩, hr⟩ := h
    obtain ⟨xs, e1, e2⟩ := intItems_of hr
    exact ⟨(x, t) :: xs, by rw [e1]; rfl, by rw [← e2]; rfl⟩
section
variable {G : Gc} {n : Nat} {sc : Scope} {ρ : Rho}
theorem one {Z : Zm} {d : D} {vs : List Value} (h : HoldsL Z [d] vs) : ∃ v, vs = [v] ∧ Holds Z d v := by obtain ⟨v, ws, rfl, hd, rfl⟩ := h; exact ⟨v, rfl, hd⟩
theorem two {Z : Zm} {d e : D} {vs : List Value} (h : HoldsL Z [d, e] vs) : ∃ v w, vs = [v, w] ∧ Holds Z d v ∧ Holds Z e w := by obtain ⟨v, ws, rfl, hd, w, us, rfl, he, rfl⟩ := h; exact ⟨v, w, rfl, hd, he⟩
theorem three {Z : Zm} {d e f : D} {vs : List Value} (h : HoldsL Z [d, e, f] vs) : ∃ v w u, vs = [v, w, u] ∧ Holds Z d v ∧ Holds Z e w ∧ Holds Z f u := by obtain ⟨v, ws, rfl, hd, w, us, rfl, he, u, ts, rfl, hf, rfl⟩ := h; exact ⟨v, w, u, rfl, hd, he, hf⟩
theorem Cv.len {l : List D} (hl : l.length < 2 ^ 62) : Cv G n (.builtin "len") [.list l] (.int l.length) := by
  intro A Z s vs Q E rm z0 zin h hq
  obtain ⟨v, rfl, a, us, rfl, hs, hh⟩ := one h
  have hlen := hh.length
  refine call_len_list (hs.list zin) (by simp; omega) ?_
  rw [show us.toArray.size = l.length by simp [hlen]]
  exact hq _ Z _ (PStep.tok zin _) ⟨_, rfl⟩
theorem Cv.max2 {a b : Int} : Cv G n (.builtin "max") [.int a, .int b] (.int (max a b)) := by
  intro A Z s vs Q E rm z0 zin h hq
  obtain ⟨v, w, rfl, ⟨t, rfl⟩, u, rfl⟩ := two h
  refine max_two_ints rm.hh fun h' tk k => hq _ Z _ (PStep.same (h' := h') (tk := tk) zin k) ?_
  by_cases q : b > a
  · rw [if_pos q, Int.max_eq_right (by omega)]; exact ⟨_, rfl⟩
  · rw [if_neg q, Int.max_eq_left (by omega)]; exact ⟨_, rfl⟩
theorem Cv.min2 {a b : Int} : Cv G n (.builtin "min") [.int a, .int b] (.int (min a b)) := by
  intro A Z s vs Q E rm z0 zin h hq
  obtain ⟨v, w, rfl, ⟨t, rfl⟩, u, rfl⟩ := two h
  refine min_two_ints rm.hh fun h' tk k => hq _ Z _ (PStep.same (h' := h') (tk := tk) zin k) ?_
  by_cases q : b < a
  · rw [if_pos q, Int.min_eq_right (by omega)]; exact ⟨_, rfl⟩
  · rw [if_neg q, Int.min_eq_left (by omega)]; exact ⟨_, rfl⟩
theorem preSum_eq (xs : List (Int × Tok)) : ∀ k, k ≤ xs.length → preSum (numAt xs.toArray) k = ((xs.take k).map (·.1)).sum
  | 0, _ => by simp [preSum]
  | k + 1, h => by
    have hk : k < xs.length := h
    have e : numAt xs.toArray k = xs[k].1 := by simp [numAt, List.getElem?_eq_getElem hk]
    rw [preSum, preSum_eq xs k (Nat.le_of_lt hk), List.take_add_one, List.getElem?_eq_getElem hk, e, List.map_append, List.sum_append]
    simp only [Option.toList_some, List.map_cons, List.map_nil, List.sum_cons, List.sum_nil, Int.add_zero]
theorem abs_sum_le : ∀ (l : List Int) (B : Nat), (∀ x ∈ l, -(B : Int) ≤ x ∧ x ≤ B) → -(l.length * B : Int) ≤ l.sum ∧ l.sum ≤ (l.length * B : Int)
  | [], B, _ => by simp
  | x :: l, B, h => by
    have h1 := h x List.mem_cons_self
    have h2 := abs_sum_le l B fun y hy => h y (List.mem_cons_of_mem _ hy)
    rw [List.sum_cons, List.length_cons]
    push_cast
    rw [Int.add_mul]
    omega
theorem Cv.sum {l : List Int} (hl : l.length ≤ 1000) (hb : ∀ x ∈ l, -1000000 ≤ x ∧ x ≤ 1000000) : Cv G n (.builtin "sum") [.list (dI l)] (.int l.sum) := by
  intro A Z s vs Q E rm z0 zin h hq
  obtain ⟨v, rfl, a, us, rfl, hs, hh⟩ := one h
  obtain ⟨xs, e1, e2⟩ := intItems_of hh
  have hL := hs.list zin
  have e3 : us.toArray = intItems xs.toArray := by rw [e1]; unfold intItems; simp
  rw [e3] at hL
  have hlen : xs.length = l.length := by rw [← e2]; simp
  refine sum_intList rm.hh hL (fun j hj => ?_) fun h' tk t' k => ?_
  · have hj' : j < xs.length := by simpa using hj
    have b1 : ∀ k, k ≤ xs.length → InLong (preSum (numAt xs.toArray) k) := fun k hk => by
      rw [preSum_eq xs k hk]
      have hm : ∀ x ∈ ((xs.take k).map (·.1)), -((1000000 : Nat) : Int) ≤ x ∧ x ≤ ((1000000 : Nat) : Int) := fun x hx => by
        have : x ∈ l := by rw [← e2]; obtain ⟨p, hp, rfl⟩ := List.mem_map.mp hx; exact List.mem_map_of_mem (List.mem_of_mem_take hp)
        have := hb x this; omega
      have := abs_sum_le _ 1000000 hm
      have hk2 : ((xs.take k).map (·.1)).length ≤ 1000 := by simp; omega
      have hk3 : ((((xs.take k).map (·.1)).length : Nat) : Int) ≤ 1000 := by omega
      unfold InLong
      have : ((((xs.take k).map (·.1)).length : Nat) : Int) * ((1000000 : Nat) : Int) ≤ 1000 * ((1000000 : Nat) : Int) := Int.mul_le_mul_of_nonneg_right hk3 (by decide)
      omega
    refine ⟨?_, b1 (j + 1) hj'⟩
    have : numAt xs.toArray j ∈ l := by
      rw [← e2]
      have : numAt xs.toArray j = xs[j].1 := by simp [numAt, List.getElem?_eq_getElem hj']
      rw [this]; exact List.mem_map_of_mem (List.getElem_mem hj')
    have := hb _ this
    unfold InLong; omega
  · have e4 : preSum (numAt xs.toArray) xs.toArray.size = l.sum := by
      rw [show xs.toArray.size = xs.length by simp, preSum_eq xs _ (Nat.le_refl _), List.take_length, e2]
    rw [e4]
    exact hq _ Z _ (PStep.same (h' := h') (tk := tk) zin k) ⟨_, rfl⟩
theorem Cv.strInt {a : Int} (ha : a.natAbs.log2 < 1920) : Cv G n (.type "str") [.int a] (.str (Str.ofString (toString a))) := by
  intro A Z s vs Q E rm z0 zin h hq
  obtain ⟨v, rfl, t, rfl⟩ := one h
  exact P.str_of_int ha (hq _ Z _ (PStep.tok zin _) ⟨_, rfl⟩)
theorem Cv.intBool {b : Bool} : Cv G n (.type "int") [.bool b] (.int (if b then 1 else 0)) := by
  intro A Z s vs Q E rm z0 zin h hq
  obtain ⟨v, rfl, rfl⟩ := one h
  exact call_int_bool (hq _ Z _ (PStep.tok zin _) ⟨_, rfl⟩)
theorem Cv.tuple {l : List D} (hl : l.length ≤ 100000) : Cv G n (.type "tuple") [.list l] (.tup l) := by
  intro A Z s vs Q E rm z0 zin h hq
  obtain ⟨v, rfl, a, us, rfl, hs, hh⟩ := one h
  refine call_tuple_list (hs.list zin) (fun h' k => ?_) (by simp [hh.length]; exact Nat.le_trans hl (by decide))
  have st := PStep.same (h' := h') (tk := s.toks) zin k
  have st2 := st.trans (PStep.push st.zin { cls := .type "tuple", data := .seq us.toArray } s.toks)
  exact hq _ _ _ st2 ⟨_, us, rfl, ⟨_, Zm.add_self .., ⟨rfl, rfl, rfl⟩, _, rfl⟩, HoldsL.mono st2.z hh⟩
theorem Op2.mul_str {x : Str} {k : Int} (ok : MulOk x k) : Op2 G n .Mult (.str x) (.int k) (.str (Txt.mul x k)) := by
  rintro A Z s v w Q E r z0 zin ⟨t, rfl⟩ ⟨u, rfl⟩ h
  exact SB.mul ok fun t' tk => h _ Z _ (PStep.tok zin _) ⟨_, rfl⟩
theorem Op2.fdiv_int {a b : Int} (hb : b ≠ 0) (hb2 : b.natAbs < 1073741824) : Op2 G n .FloorDiv (.int a) (.int b) (.int (a.fdiv b)) := by
  rintro A Z s v w Q E r z0 zin ⟨t, rfl⟩ ⟨u, rfl⟩ h
  exact AutoIntOps.floordiv_1 (by simpa using hb) (by rw [PyProof.noPylong_small hb2]; decide) (h _ Z _ (PStep.tok zin _) ⟨_, rfl⟩)
theorem Sub.str {x : Str} {k : Int} {c : Nat} (hr : (decide (k < -(2 ^ 63 : Int)) || decide (k ≥ 2 ^ 63)) = false) (hc : (seqIndex? k x.length).bind (x.cps[·]?) = some c) : Sub G n (.str x) (.int k) (.str ⟨#[c]⟩) := by
  refine ⟨"str", _, F.slot_str_getitem.lookup, fun A Z s v w Q E rm z0 zin hv hw => ?_⟩
  obtain ⟨t, rfl⟩ := hv
  obtain ⟨u, rfl⟩ := hw
  exact ⟨typeIs_str _ _ _, fun h => P.getItem_str hr hc (h _ Z _ (PStep.tok zin _) ⟨_, rfl⟩)⟩
theorem Cv.join {x : Str} {l : List Str} (hok : (l.map (·.length)).sum + l.length * x.length ≤ 16777216) : Cv G n (.builtin "str.join") [.str x, .list (dS l)] (.str (Txt.join x l)) := by
  intro A Z s vs Q E rm z0 zin h hq
  obtain ⟨v, w, rfl, ⟨t, rfl⟩, a, us, rfl, hs, hh⟩ := two h
  exact join_list (hs.list zin) (by simpa using hh.strs) hok fun t' k => hq _ Z _ (PStep.tok zin _) ⟨_, rfl⟩
theorem CvL.split {x y : Str} (hy : (y.length == 0) = false) (hsz : x.length ≤ sizeLine) (hsz2 : (partsBetween x (occurrences x y 0 x.length (x.length + 1)) y.length).length ≤ sizeLine) :
    CvL G n (.builtin "str.split") [.str x, .str y] (dS (Txt.split x y)) := by
  intro A Z s vs Q E rm z0 zin h hq
  obtain ⟨v, w, rfl, ⟨t, rfl⟩, u, rfl⟩ := two h
  have fin : ∀ (l : List (Str × Tok)) (tk : Nat), l.map (·.1) = Txt.split x y → Q (.ref s.heap.objs.size) { s with heap := s.heap.push { cls := .type "list", data := .seq (strValues l).toArray }, toks := tk } := fun l tk e =>
    newL (Q := Q) (PStep.refl zin) (HoldsL.ofStrs (by rw [← e]; exact strsAre_strValues l)) hq tk
  cases h1 : (decide (x.length < y.length) || decide (strKind x < strKind y))
  · cases hf : (occurrences x y 0 x.length (x.length + 1)).isEmpty
    · refine call_meets F.slot_str_split (typeIs_str _ _ _) F.entry_str_split (F.args_str_split_2 _ _) (meets_str_split_sep x y t u h1 hy hf hsz hsz2) ?_
      show wants Q E _ { s with toks := _, heap := s.heap.push { cls := .type "list", data := .seq (strsFrom s.toks (partsBetween x (occurrences x y 0 x.length (x.length + 1)) y.length)).toArray } }
      rw [strsFrom_eq]
      exact fin (numbered s.toks _) _ ((numbered_texts _ _).trans ((if_neg (ne_true_of_eq_false h1)).trans (if_neg (ne_true_of_eq_false hf))).symm)
    · exact call_meets F.slot_str_split (typeIs_str _ _ _) F.entry_str_split (F.args_str_split_2 _ _) (meets_str_split_not_found x y t u h1 hy hf)
        (fin [(x, t)] _ ((if_neg (ne_true_of_eq_false h1)).trans (if_pos hf)).symm)
  · exact call_meets F.slot_str_split (typeIs_str _ _ _) F.entry_str_split (F.args_str_split_2 _ _) (meets_str_split_cannot_occur x y t u h1)
      (fin [(x, t)] _ (if_pos h1).symm)
end
end M3
end
-- part C25
section
namespace M3
open PySem PySem.Calls PySem.Spec PyProof.Rows PySem.W PySem.Builtin PySem.Builtin.Str
section
variable {G : Gc} {n : Nat} {sc : Scope} {ρ : Rho} {tgs : List Str}
/-- a list of the frame's own gets other items -/
theorem SeesF.modOwn {env g Zg Z} {s s' : Shared} {x : Str} {l l' : List D} {a : Addr} {vs : Array Value} {vs' : List Value} (S : SeesF G env g Zg Z ρ s.heap) (e : ρ.lookup x = some (.own l)) (hv : VarAt env s.heap x (.ref a)) (hs : Heap.SameBut a s.heap s'.heap)
    (hst : ∃ h' tk, s' = { s with heap := h', toks := tk }) (hl : PL s.heap a vs) (hl' : PL s'.heap a vs'.toArray) (hh : HoldsL Z l' vs') : SeesF G env g Zg Z (ρ.set x (.own l')) s'.heap := by
  obtain ⟨pl, V⟩ := S.sees.vars
  obtain ⟨v, hv2, b, us, eb, ev, hz, hlb, _⟩ := V.at_ x _ e
  have := hv.unique hv2
  rw [ev] at this; cases this
  have hne : ∀ {m}, s.heap.Ns env.locals m → env.locals ≠ a := fun {m} q => Ns.ne_list q hl
  have hce : ∀ {c v}, s.heap.IsCell c v → c ≠ a := fun {c v} q => IsCell.ne_list q hl
  have ga : g.get? a = none := V.og x a eb
  have hva : ∀ y w, VarAt env s.heap y w → VarAt env s'.heap y w := fun y w q => by
    rcases q with ⟨k, m, hm, e⟩ | ⟨k, c, hc, e⟩
    · exact .inl ⟨k, m, hm.sameBut hs (hne hm), e⟩
    · exact .inr ⟨k, c, hc, e.sameBut hs (hce e)⟩
  have zin' : Zin Z s'.heap := fun b o q => (hs.2 b fun r => by rw [r, hz] at q; cases q).trans (S.sees.zin b o q)
  refine ⟨⟨S.sees.z0, zin', S.sees.ek, S.sees.eg, S.sees.eb, ?_, S.sees.nz, fun y hk => ?_, S.sees.cinj, pl, fun y sl q => ?_, fun y q => ?_, V.inj, V.og⟩, fun b o q => ?_, S.zg, S.zng, S.lf, S.nofree, S.cf⟩
  · obtain ⟨m, hm⟩ := S.sees.ns
    exact ⟨m, hm.sameBut hs (hne hm)⟩
  · obtain ⟨c, w, ec, hw, hzc⟩ := S.sees.cells y hk
    exact ⟨c, w, ec, hw.sameBut hs (hce hw), hzc⟩
  · rw [Rho.lookup_set] at q
    by_cases hy : y = x
    · subst hy
      rw [if_pos rfl] at q; cases q
      exact ⟨_, hva _ _ hv, a, vs', eb, rfl, hz, hl', hh⟩
    · rw [if_neg hy] at q
      obtain ⟨w, hw, hsl⟩ := V.at_ y sl q
      refine ⟨w, hva _ _ hw, ?_⟩
      have up : ∀ {b vs}, pl y = some b → PL s.heap b vs → PL s'.heap b vs := fun {b vs} r p => by
        obtain ⟨ob, e, t⟩ := p
        exact ⟨ob, (hs.2 b fun r' => hy (V.inj y x a (r' ▸ r) eb)).trans e, t⟩
      cases sl with
      | fz d => exact hsl
      | own l2 => obtain ⟨c, us, ec, ev, hz2, hl2, hh2⟩ := hsl; exact ⟨c, us, ec, ev, hz2, up ec hl2, hh2⟩
      | hdr cc l2 => obtain ⟨xx, c, us, ec, ev, hi, hz2, hl2, hh2⟩ := hsl; exact ⟨xx, c, us, ec, ev, hi, hz2, up ec hl2, hh2⟩
  · rw [Rho.lookup_set] at q
    by_cases hy : y = x
    · rw [if_pos hy] at q; cases q
    · rw [if_neg hy] at q; exact V.out y q
  · exact (hs.2 b fun r => by rw [r, ga] at q; cases q).trans (S.keep b o q)
/-- a method's call on a list of the frame's own: the look, then the arguments -/
theorem ownMeth {A : Around} {E : Value → Shared → Prop} {env g Zg Z} {s : Shared} {x name : Str} {px apos pos : Pos} {id : String} {l ds : List D} {es : List Expr} {Q : Value → Shared → Prop} (rm : Room n A) (he : env.scope = sc) (S : SeesF G env g Zg Z ρ s.heap)
    (ok : okName x = true) (hx : ρ.lookup x = some (.own l)) (sh : MethShape (.Name x px) name apos es pos) (slot : PySem.Slot "list" name id) (hty : typeOf (.builtin id) = pure (.type "method_descriptor")) (a : Evs G n sc ρ es ds) (hs : noStar es = true)
    (h : ∀ L us vs Z' s', PStep Z s Z' s' → VarAt env s'.heap x (.ref L) → PL s'.heap L us.toArray → HoldsL Z' l us → HoldsL Z' ds vs → wpAny (model G.prog G.w) A (call (.builtin id) (.ref L :: vs)) Q E s') :
    wpAny (model G.prog G.w) A (eval (.Call (.Attribute (.Name x px) name apos) es [] pos) env) Q E s := by
  obtain ⟨h1, h2⟩ := Bool.and_eq_true_iff.mp ok
  obtain ⟨pl, e⟩ := sh env
  refine methodCall_KW (pl := pl) (wpAny_Name (S.sees.load hx (fun v o hv hsl => ?_) (by simpa using h2)) (by simpa using h1)) e
  obtain ⟨L, us, _, rfl, hz, hl, hh⟩ := hsl
  refine getMethod_builtin hl.list.typeIs PySem.F.plainAttrs_list slot hty (fun b e => ?_) ?_
  · cases e
    obtain ⟨o, eo, p, _⟩ := hl
    exact ⟨o, eo, p.d⟩
  refine callWith_pos S.sees rm he Kpr.builtin hs a fun vs Z1 s1 st1 hv1 => ?_
  exact h L us vs Z1 s1 st1 (hv.keeps st1.keep) (IsList.keeps hl st1.keep) (HoldsL.mono st1.z hh) hv1
/-- x.append(e) -/
theorem Ex1.append {x : Str} {px apos pos spos : Pos} {l : List D} {e : Expr} {d : D} (ok : okName x = true) (hx : ρ.lookup x = some (.own l)) (sh : MethShape (.Name x px) (Str.ofString "append") apos [e] pos) (a : Ev G n sc ρ e d) (hs : noStar [e] = true)
    (hse : ∀ env, starEach [e] env = (false, eval e env) :: starEach [] env) (hl : l.length ≤ 100000) (hi : ∀ env : Env, env.scope = sc → interactive env = false) (hsw : ∀ env : Env, swapsWith (.Call (.Attribute (.Name x px) (Str.ofString "append") apos) [e] [] pos) none spos.line env = pure false) :
    Ex1 G n sc ρ (.Expr (.Call (.Attribute (.Name x px) (Str.ofString "append") apos) [e] [] pos) spos) (.nx (ρ.set x (.own (l ++ [d])))) := by
  intro A env g Zg Z s Q E rm he S hq
  refine wpAny_Expr_any ?_ (hi env he) (hsw env)
  refine ownMeth rm he S ok hx sh slot_list_append F.type_list_append (Evs.cons a Evs.nil hse) hs fun L us vs Z1 s1 st1 hv hL hh hvs => ?_
  obtain ⟨v, rfl, hd⟩ := one hvs
  obtain ⟨k, ek⟩ := hL.isL
  refine append_at (hsz := by rw [List.size_toArray, hh.length]; exact Nat.le_trans hl (by decide)) ek fun h' hsb ek' => ?_
  have S1 := S.step st1
  refine hq _ Z1 _ (st_tr st1.st ⟨h', s1.toks, rfl⟩) ⟨rfl, ?_⟩
  exact SeesF.modOwn (s := s1) (s' := { s1 with heap := h' }) (vs' := us ++ [v]) S1 hx hv hsb ⟨h', s1.toks, rfl⟩ hL (by simpa using PL.of ek') (hh.append (HoldsL.one hd))
/-- removing the first item that equals x -/
def removeInt (x : Int) : List Int → List Int
  | [] => []
  | a :: l => if a == x then l else a :: removeInt x l
theorem first_at {x : Int} : ∀ {l : List Int}, x ∈ l → ∃ j, ∃ hj : j < l.length, l[j] = x ∧ (∀ m (hm : m < l.length), m < j → l[m] ≠ x) ∧ removeInt x l = l.eraseIdx j
  | [], h => by cases h
  | a :: l, h => by
    by_cases q : a = x
    · refine ⟨0, Nat.zero_lt_succ _, q, fun m hm h0 => absurd h0 (Nat.not_lt_zero _), ?_⟩
      simp [removeInt, q]
    · have hm : x ∈ l := by
        rcases List.mem_cons.mp h with h | h
        · exact absurd h.symm q
        · exact h
      obtain ⟨j, hj, e, no, er⟩ := first_at hm
      refine ⟨j + 1, Nat.succ_lt_succ hj, by simpa using e, fun m hm h0 => ?_, ?_⟩
      · cases m with
        | zero => simpa using q
        | succ m => simpa using no m (by simpa using hm) (Nat.lt_of_succ_lt_succ h0)
      · simp [removeInt, q, er]
theorem HoldsL.eraseIdx {Z : Zm} : ∀ {l : List D} {vs : List Value} (j : Nat), HoldsL Z l vs → HoldsL Z (l.eraseIdx j) (vs.eraseIdx j)
  | [], vs, j, h => by
    have : vs = [] := h
    subst this; simp [HoldsL]
  | d :: l, vs, 0, h => by
    obtain ⟨v, vs', rfl, hd, hr⟩ := h
    exact hr
  | d :: l, vs, j + 1, h => by
    obtain ⟨v, vs', rfl, hd, hr⟩ := h
    exact ⟨v, vs'.eraseIdx j, rfl, hd, HoldsL.eraseIdx j hr⟩
theorem dI_erase : ∀ (l : List Int) (j : Nat), (dI l).eraseIdx j = dI (l.eraseIdx j)
  | [], _ => by simp [dI]
  | _ :: _, 0 => rfl
  | a :: l, j + 1 => by have := dI_erase l j; unfold dI at this ⊢; simpa using this
theorem dI_get {l : List Int} {us : List Value} {Z : Zm} (h : HoldsL Z (dI l) us) {m : Nat} (hm : m < us.length) : ∃ t, us[m] = .int (l[m]'(by have := h.length; simp [dI] at this; omega)) t := by
  have hlen := h.length
  have hm' : m < l.length := by simp [dI] at hlen; omega
  have e : (dI l)[m]? = some (.int l[m]) := by simp [dI, List.getElem?_eq_getElem hm']
  obtain ⟨v, ev, t, hv⟩ := h.get e
  rw [List.getElem?_eq_getElem hm] at ev
  exact ⟨t, by rw [← hv]; exact Option.some.inj ev⟩
def isIntV (x : Int) : Value → Bool
  | .int i _ => i == x
  | _ => false
/-- x.remove(e), ints -/
theorem Ex1.remove {x : Str} {px apos pos spos : Pos} {l : List Int} {e : Expr} {k : Int} (ok : okName x = true) (hx : ρ.lookup x = some (.own (dI l))) (sh : MethShape (.Name x px) (Str.ofString "remove") apos [e] pos) (a : Ev G n sc ρ e (.int k)) (hs : noStar [e] = true)
    (hse : ∀ env, starEach [e] env = (false, eval e env) :: starEach [] env) (hl : l.length ≤ 100000) (hk : k ∈ l) (hi : ∀ env : Env, env.scope = sc → interactive env = false) (hsw : ∀ env : Env, swapsWith (.Call (.Attribute (.Name x px) (Str.ofString "remove") apos) [e] [] pos) none spos.line env = pure false) :
    Ex1 G n sc ρ (.Expr (.Call (.Attribute (.Name x px) (Str.ofString "remove") apos) [e] [] pos) spos) (.nx (ρ.set x (.own (dI (removeInt k l))))) := by
  intro A env g Zg Z s Q E rm he S hq
  refine wpAny_Expr_any ?_ (hi env he) (hsw env)
  refine ownMeth rm he S ok hx sh F.slot_list_remove F.type_list_remove (Evs.cons a Evs.nil hse) hs fun L us vs Z1 s1 st1 hv hL hh hvs => ?_
  obtain ⟨v, rfl, t, rfl⟩ := one hvs
  obtain ⟨c, ek⟩ := hL.isL
  obtain ⟨j, hj, e1, no, er⟩ := first_at hk
  have hlen : us.length = l.length := by rw [hh.length]; simp [dI]
  have hju : j < us.toArray.size := by simpa [hlen] using hj
  refine call_meets F.slot_list_remove ⟨_, ek, rfl⟩ F.entry_list_remove (F.args_list_remove_2 _ _) (MeetsSeq.list_remove L us.toArray c (.int k t) (isIntV k) (fun y hy => ?_) j hju ?_ ?_ (by simp [hlen]; exact Nat.le_trans hl (by decide))) ⟨ek, ?_⟩
  · obtain ⟨m, hm, rfl⟩ := List.getElem_of_mem (by simpa using hy)
    obtain ⟨u, eu⟩ := dI_get hh hm
    rw [eu]; exact MeetsSeq.EqGives.int _ _ _ _
  · obtain ⟨u, eu⟩ := dI_get hh (by simpa using hju)
    have : us.toArray[j] = .int l[j] u := by simpa using eu
    rw [this, e1]; simp [isIntV]
  · intro m hm h0
    obtain ⟨u, eu⟩ := dI_get hh (m := m) (by simpa using hm)
    have : us.toArray[m] = .int (l[m]'(by simp [hlen] at hm; exact hm)) u := by simpa using eu
    rw [this]
    simpa [isIntV] using no m (by simp [hlen] at hm; exact hm) h0
  · have S1 := S.step st1
    have hp : PL (s1.heap.update L (Obj.mapSeq fun xs => xs.eraseIdxIfInBounds j)) L (us.eraseIdx j).toArray := by
      have e2 : us.toArray.eraseIdxIfInBounds j = (us.eraseIdx j).toArray := by
        unfold Array.eraseIdxIfInBounds
        rw [dif_pos hju]; simp
      have := IsL.update ek (fun xs => xs.eraseIdxIfInBounds j)
      rw [e2] at this
      exact PL.of this
    refine hq _ Z1 _ (st_tr st1.st ⟨_, s1.toks, rfl⟩) ⟨rfl, ?_⟩
    rw [er]
    exact SeesF.modOwn (s := s1) (s' := { s1 with heap := s1.heap.update L (Obj.mapSeq fun xs => xs.eraseIdxIfInBounds j) }) (vs' := us.eraseIdx j) S1 hx hv (Heap.SameBut.update ..) ⟨_, s1.toks, rfl⟩ hL hp
      (by have := HoldsL.eraseIdx j hh; rw [dI_erase] at this; exact this)
theorem HoldsL.set {Z : Zm} {d : D} {v : Value} (hv : Holds Z d v) : ∀ {l : List D} {vs : List Value} (j : Nat), HoldsL Z l vs → HoldsL Z (l.set j d) (vs.set j v)
  | [], vs, j, h => by
    have : vs = [] := h
    subst this; simp [HoldsL]
  | e :: l, vs, 0, h => by
    obtain ⟨w, vs', rfl, hd, hr⟩ := h
    exact ⟨v, vs', rfl, hv, hr⟩
  | e :: l, vs, j + 1, h => by
    obtain ⟨w, vs', rfl, hd, hr⟩ := h
    exact ⟨w, vs'.set j v, rfl, hd, HoldsL.set hv j hr⟩
/-- the store of an item, with the list's own object told -/
theorem setItem_plain {prog : Program} {w : World} {A : Around} {E : Value → Shared → Prop} {s : Shared} {L : Addr} {us : List Value} {c : Nat} {k : Int} {t : Tok} {v : Value} {Q : Unit → Shared → Prop}
    (ek : s.heap.get? L = some { cls := .type "list", dict := none, data := .seq us.toArray c, slots := #[] }) (h0 : 0 ≤ k) (hfit : k < 2 ^ 63) (hn : k.toNat < us.length)
    (hq : ∀ h', PL h' L (us.set k.toNat v).toArray → Heap.SameBut L s.heap h' → Q () { s with heap := h' }) : wpAny (model prog w) A (setItem (.ref L) (.int k t) v) Q E s := by
  have hl : s.heap.IsList L us.toArray := ⟨_, ek, rfl, _, rfl⟩
  have hx : us.toArray[k.toNat]? = some us[k.toNat] := by simp [hn]
  have fin : PL (s.heap.update L (Obj.mapSeq (·.setIfInBounds k.toNat v))) L (us.set k.toNat v).toArray := by
    have := IsL.update ek (fun xs => xs.setIfInBounds k.toNat v)
    rw [show us.toArray.setIfInBounds k.toNat v = (us.set k.toNat v).toArray by simp] at this
    exact PL.of this
  unfold setItem
  try with_reducible refine wpAny_holding ?_
  first | refine wpAny_bind (wpAny_pure ?_) | skip
  refine wpAny_bind (wpAny_sequenceKey hl.typeIs (by decide) ?_)
  refine wpAny_bind (wpAny_callSpecial?_slot (name := Str.ofString "__setitem__") hl.typeIs slot_list_setitem (wpAny_call_entry slot_list_setitem hl.typeIs entry_list_setitem ?_ (args_list_setitem _ _ _)))
  show wpAny _ _ (Builtin.List.listSubscript? (.int k t) >>= _) _ _ s
  refine wpAny_bind (wpAny_listSubscript_int (fitsIndex_of h0 hfit) ?_)
  obtain ⟨j, rfl⟩ := Int.eq_ofNat_of_zero_le h0
  show wpAny _ _ ((seqItemAt L j >>= fun r => pure (r.map (j, ·))) >>= _) _ _ s
  refine wpAny_bind (wpAny_bind (wpAny_seqItemAt ek rfl (wpAny_pure ?_)))
  rw [show us.toArray[j]? = some us[j] by simpa using hx]
  show wpAny _ _ (setSeqItemAt L j v >>= _) _ _ s
  refine wpAny_bind (wpAny_setSeqItemAt ek rfl ?_)
  first
    | exact wpAny_bind (wpAny_pure (wpAny_pure ⟨.none, rfl, wpAny_pure (hq _ fin (Heap.SameBut.update ..))⟩))
    | exact wpAny_pure ⟨.none, rfl, wpAny_pure (hq _ fin (Heap.SameBut.update ..))⟩
/-- x[i] = e -/
theorem Ex1.setItem {x : Str} {px ipos pos : Pos} {i e : Expr} {l : List D} {k : Int} {d : D} (ok : okName x = true) (hx : ρ.lookup x = some (.own l)) (he : Ev G n sc ρ e d) (hi : Ev G n sc ρ i (.int k)) (h0 : 0 ≤ k) (hk : k < l.length) (hsz : l.length ≤ 100000)
    (hs : ∀ env : Env, swapsWith e (some (.Subscript (.Name x px) i ipos)) pos.line env = pure false) : Ex1 G n sc ρ (.Assign [.Subscript (.Name x px) i ipos] e pos) (.nx (ρ.set x (.own (l.set k.toNat d)))) := by
  intro A env g Zg Z s Q E rm hsc S hq
  obtain ⟨h1, h2⟩ := Bool.and_eq_true_iff.mp ok
  refine wpAny_Assign_Subscript (he A env g Z s _ E rm hsc S.sees fun v Z1 s1 st1 hv => ?_) (hs env)
  have S1 := S.step st1
  refine wpAny_Name (S1.sees.load hx (fun w o hw hsl => ?_) (by simpa using h2)) (by simpa using h1)
  obtain ⟨L, us, _, rfl, hz, hl, hh⟩ := hsl
  refine hi A env g Z1 s1 _ E rm hsc S1.sees fun w Z2 s2 st2 hw2 => ?_
  obtain ⟨t, rfl⟩ := hw2
  have hlen := hh.length
  have hl2 := IsList.keeps hl st2.keep
  have S2 := S1.step st2
  obtain ⟨c, ek⟩ := hl2.isL
  refine setItem_plain ek h0 (by omega) (by omega) fun h' hl' hsb => ?_
  refine hq _ Z2 _ (st_tr (st1.trans st2).st ⟨h', s2.toks, rfl⟩) ⟨rfl, ?_⟩
  exact SeesF.modOwn (s := s2) (s' := { s2 with heap := h' }) (vs' := us.set k.toNat v) S2 hx (hw.keeps st2.keep) hsb ⟨h', s2.toks, rfl⟩ hl2 hl' (HoldsL.set (Holds.mono st2.z hv) _ (HoldsL.mono st2.z hh))
end
end M3
end
-- part C26
section
namespace M3
open PySem PySem.Calls PySem.Spec PyProof.Rows PySem.W PySem.Builtin PySem.Builtin.Str
def atName : List Str → List Value → Str → Option Value
  | n :: ns, v :: vs, x => if n == x then some v else atName ns vs x
  | _, _, _ => none
def dAt : List Str → List D → Str → Option D
  | n :: ns, d :: ds, x => if n == x then some d else dAt ns ds x
  | _, _, _ => none
theorem getL_ent : ∀ {es : List DictEntry} {ns : List Str} {vs : List Value}, EntZ es ns vs → ∀ x, getL x es = some (atName ns vs x)
  | [], [], [], _, x => rfl
  | e :: es, n :: ns, v :: vs, ⟨⟨h, t, he⟩, r⟩, x => by
    have ih := getL_ent r x
    subst he
    unfold getL at ih ⊢
    rw [List.find?_cons, List.any_cons]
    cases q : n == x with
    | true =>
      have : (Value.str n t).isStr x = true := by simpa [Value.isStr] using q
      simp [this, atName, q]
    | false =>
      have : (Value.str n t).isStr x = false := by simpa [Value.isStr] using q
      simp only [this, atName, q, if_false]
      have hr : DictEntry.refKey ⟨h, .str n t, v⟩ = false := rfl
      simp only [hr, Bool.false_or, Bool.false_eq_true, if_false]
      exact ih
  | [], n :: ns, vs, h, x => by cases vs <;> exact h.elim
  | e :: es, [], vs, h, x => by cases vs <;> exact h.elim
  | [], [], v :: vs, h, x => h.elim
  | e :: es, n :: ns, [], h, x => h.elim
theorem HoldsL.atName {Z : Zm} : ∀ {ns : List Str} {l : List D} {vs : List Value}, HoldsL Z l vs → ∀ {x d}, dAt ns l x = some d → ∃ v, M3.atName ns vs x = some v ∧ Holds Z d v
  | [], _, _, _, x, d, e => by cases e
  | n :: ns, [], _, _, x, d, e => by cases e
  | n :: ns, e :: l, vs, h, x, d, q => by
    obtain ⟨v, vs', rfl, hd, hr⟩ := h
    unfold dAt at q
    unfold M3.atName
    split at q
    · cases q; rename_i hn; rw [if_pos hn]; exact ⟨v, rfl, hd⟩
    · rename_i hn; rw [if_neg hn]; exact HoldsL.atName hr q
theorem atName_none {name : Str} : ∀ {ns : List Str} {vs : List Value} {l : List D}, ns.length = vs.length → vs.length = l.length → dAt ns l name = none → M3.atName ns vs name = none
  | [], _, _, _, _, _ => rfl
  | m :: ns, [], _, _, _, _ => rfl
  | m :: ns, v :: vs, [], _, h, _ => by cases h
  | m :: ns, v :: vs, d :: l, h1, h2, hn => by
    unfold dAt at hn
    unfold M3.atName
    split at hn
    · cases hn
    · rename_i q; rw [if_neg q]; exact atName_none (by simpa using h1) (by simpa using h2) hn
theorem holds_handed {Z : Zm} {d : D} {v : Value} (h : Holds Z d v) : handedIn v = true := by
  cases d with
  | none => have : v = .none := h; subst this; rfl
  | bool => have := h; cases this; rfl
  | int => obtain ⟨t, rfl⟩ := h; rfl
  | str => obtain ⟨t, rfl⟩ := h; rfl
  | list => obtain ⟨a, vs, rfl, _⟩ := h; rfl
  | tup => obtain ⟨a, vs, rfl, _⟩ := h; rfl
  | inst => obtain ⟨a, vs, rfl, _⟩ := h; rfl
  | addr a => have : v = .ref a := h; subst this; rfl
theorem InstZ.inst {Z : Zm} {h : Heap} {c : Addr} {ns : List Str} {a : Addr} {vs : List Value} (x : InstZ Z c ns a vs) (zin : Zin Z h) : ∃ dx es n, InstAt h a (instObj c dx) c (some (dictOf es n)) ∧ EntZ es ns vs := by
  obtain ⟨dx, es, n, e1, e2, r⟩ := x
  exact ⟨dx, es, n, ⟨zin _ _ e1, rfl, rfl, zin _ _ e2⟩, r⟩
/-- what the class says of the name: no descriptor stands ahead of the made object's own -/
def attrOk (K : Frag) (c : Addr) (name : Str) : Bool := plainGet K c name && hasDictIn K c && (match findIn K (.ref c) name with | some attr => noGet K attr | none => false)
section
variable {G : Gc} {n : Nat} {sc : Scope} {ρ : Rho}
theorem getAttr_inst {A : Around} {E : Value → Shared → Prop} {Z : Zm} {s : Shared} {c : Addr} {ns : List Str} {l : List D} {v : Value} {name : Str} {d : D} {ex : Bool} {Q : Value → Shared → Prop} (z0 : G.Z0 Z) (zin : Zin Z s.heap) (hv : Holds Z (.inst c ns l) v)
    (ok : attrOk G.K c name = true) (hd : dAt ns l name = some d) (h : ∀ w, Holds Z d w → Q w { s with toks := s.toks + 1 }) : wpAny (model G.prog G.w) A (getAttr v name ex) Q E s := by
  obtain ⟨a, vs, rfl, hi, hh⟩ := hv
  obtain ⟨dx, es, k, I, he⟩ := hi.inst zin
  obtain ⟨w, ew, hw⟩ := hh.atName hd
  unfold attrOk at ok
  obtain ⟨ok, h3⟩ := Bool.and_eq_true_iff.mp ok
  obtain ⟨h1, h2⟩ := Bool.and_eq_true_iff.mp ok
  cases q : findIn G.K (.ref c) name with
  | none => rw [q] at h3; cases h3
  | some attr =>
    rw [q] at h3
    exact get_value (z0.bs zin).k I (plainGet_of h1).1 (findObj_own h2 q h3 (by rw [lookIn_dict, getL_ent he, ew])) (holds_handed hw) (h w hw)
theorem Ev.attr {o : Expr} {name : Str} {pos : Pos} {c : Addr} {ns : List Str} {l : List D} {d : D} (x : Ev G n sc ρ o (.inst c ns l)) (ok : attrOk G.K c name = true) (hd : dAt ns l name = some d)
    (he : ∀ env, eval (.Attribute o name pos) env = (do
      let ov ← eval o env
      standAt pos.atName
      let r ← holding [ov] (getAttr ov name true)
      letTemporaryGo o ov r
      pure r)) : Ev G n sc ρ (.Attribute o name pos) d := by
  intro A env g Z s Q E rm hs S h
  refine Attribute_any_ (x A env g Z s _ E rm hs S fun v Z1 s1 st1 hv => ?_) (he env)
  exact getAttr_inst (S.step st1).z0 st1.zin hv ok hd fun w hw => h w Z1 _ (st1.trans (PStep.tok st1.zin _)) hw
/-- a method of an made object that is a def of its class -/
def methOk (K : Frag) (c : Addr) (name : Str) (f : Addr) : Bool := plainGet K c name && findIn K (.ref c) name == some (some (.ref f)) && isFn K (.ref f)
theorem Mt.inst {c : Addr} {ns : List Str} {l : List D} {name : Str} {f : Addr} {P : Value → List D → Prop} (ok : methOk G.K c name f = true) (hn : dAt ns l name = none) (hlen : ns.length = l.length) (hk : Kpr G (.ref f)) (h : P (.ref f) [.inst c ns l]) : Mt G n name (.inst c ns l) P := by
  intro A Z s v pl Q E r z0 zin hv hq
  obtain ⟨a, vs, rfl, hi, hh⟩ := id hv
  obtain ⟨dx, es, k, I, he⟩ := hi.inst zin
  unfold methOk at ok
  obtain ⟨ok, h3⟩ := Bool.and_eq_true_iff.mp ok
  obtain ⟨h1, h2⟩ := Bool.and_eq_true_iff.mp ok
  have hno : atName ns vs name = none := atName_none (by rw [hh.length]; exact hlen) (by rw [hh.length]) hn
  refine method_fn (z0.bs zin).k I (plainGet_of h1).1 (plainGet_of h1).2 (beq_iff_eq.mp h2) (beq_iff_eq.mp h3) ?_ (hq _ _ _ hk h (HoldsL.one hv))
  show (lookIn name (dictOf es k)).map _ = _
  rw [lookIn_dict, getL_ent he, hno]; rfl
/-- reading from a class of the text -/
theorem Ev.clsAttr {x name : Str} {xp pos : Pos} {C : Addr} {mc v : Value} {d : D} (c : Callee G sc x (.ref C)) (hr : readsIn G.K C mc = true) (e : findCls G.K (.ref C) mc name = some (.val v)) (hh : handedIn v = true) (hv : ∀ Z, Holds Z d v) : Ev G n sc ρ (.Attribute (.Name x xp) name pos) d := by
  intro A env g Z s Q E rm hs S h
  refine Attribute_any_ (c.eval S hs ?_)
  exact cls_value (S.z0.bs S.zin).k hr e hh (h v Z _ (PStep.tok S.zin _) (hv Z))
end
end M3
end
-- part C27
section
namespace M3
open PySem PySem.Calls PySem.Spec PyProof.Rows PySem.W PySem.Builtin PySem.Builtin.Str
/-- an made object whose fields are still being set -/
structure SelfAt (g : Heap) (x dx C : Addr) (ns : List Str) (vs : List Value) : Prop where
  i : g.get? x = some (instObj C dx)
  d : ∃ es k, g.get? dx = some (dictOf es k) ∧ EntZ es ns vs
theorem EntZ.put {hsh : Int} {x : Str} {t : Tok} {v : Value} : ∀ {es : List DictEntry} {ns : List Str} {vs : List Value}, EntZ es ns vs → x ∉ ns → EntZ (putL x hsh (.str x t) v es) (ns ++ [x]) (vs ++ [v])
  | [], [], [], _, _ => ⟨⟨hsh, t, rfl⟩, trivial⟩
  | e :: es, n :: ns, u :: vs, ⟨⟨h, s, he⟩, r⟩, hx => by
    subst he
    have hn : (Value.str n s).isStr x = false := by
      have : n ≠ x := fun q => hx (by rw [q]; exact List.mem_cons_self)
      simpa [Value.isStr] using this
    show EntZ (if (Value.str n s).isStr x = true then _ else _) _ _
    rw [hn, if_neg (by decide)]
    exact ⟨⟨h, s, rfl⟩, EntZ.put r fun q => hx (List.mem_cons_of_mem _ q)⟩
  | [], n :: ns, vs, h, _ => by cases vs <;> exact h.elim
  | e :: es, [], vs, h, _ => by cases vs <;> exact h.elim
  | [], [], v :: vs, h, _ => h.elim
  | e :: es, n :: ns, [], h, _ => h.elim
theorem EntZ.length : ∀ {es : List DictEntry} {ns : List Str} {vs : List Value}, EntZ es ns vs → es.length = ns.length
  | [], [], [], _ => rfl
  | e :: es, n :: ns, v :: vs, ⟨_, r⟩ => by simp [EntZ.length r]
  | [], n :: ns, vs, h => by cases vs <;> exact h.elim
  | e :: es, [], vs, h => by cases vs <;> exact h.elim
  | [], [], v :: vs, h => h.elim
  | e :: es, n :: ns, [], h => h.elim
theorem EntZ.noref : ∀ {es : List DictEntry} {ns : List Str} {vs : List Value}, EntZ es ns vs → es.any (·.refKey) = false
  | [], [], [], _ => rfl
  | e :: es, n :: ns, v :: vs, ⟨⟨h, t, he⟩, r⟩ => by
    subst he
    rw [List.any_cons, EntZ.noref r]; rfl
  | [], n :: ns, vs, h => by cases vs <;> exact h.elim
  | e :: es, [], vs, h => by cases vs <;> exact h.elim
  | [], [], v :: vs, h => h.elim
  | e :: es, n :: ns, [], h => h.elim
/-- the class lets its made objects keep what is stored -/
def storeOk (K : Frag) (C : Addr) (name : Str) : Bool := findIn K (.ref C) "__setattr__" == some (some (.builtin "object.__setattr__")) && plainOver K C && takerIn K C name == some none && (clsIn K C).any (·.hasDict)
section
variable {G : Gc} {n : Nat} {sc : Scope} {ρ : Rho}
theorem osa_self {A : Around} {R : Result → Shared → Prop} {s : Shared} {x dx C : Addr} {ns : List Str} {vs : List Value} {name : Str} {tk : Tok} {v : Value} (X : G.K.In s.heap) (I : SelfAt s.heap x dx C ns vs) (ok : storeOk G.K C name = true) (hn : name ∉ ns) (hlen : ns.length ≤ 100)
    (h : ∀ h' o', h'.get? dx = some o' → (∃ es k, o' = dictOf es k ∧ EntZ es (ns ++ [name]) (vs ++ [v])) → Heap.SameBut dx s.heap h' → R (.ok (.ret .none)) { s with heap := h', toks := s.toks + 1 }) : codeAny (model G.prog G.w) A (.call (.builtin "object.__setattr__") ⟨[.ref x, .str name tk, v], []⟩) R s := by
  unfold storeOk at ok
  simp only [Bool.and_eq_true, beq_iff_eq] at ok
  obtain ⟨⟨⟨h1, h2⟩, h3⟩, h4⟩ := ok
  obtain ⟨es, k, hd, he⟩ := I.d
  have IA : InstAt s.heap x (instObj C dx) C (some (dictOf es k)) := ⟨I.i, rfl, rfl, hd⟩
  refine osa_open X IA h2 h3 fun b => ?_
  obtain ⟨cd, hc, hd'⟩ := any_some h4
  refine wpAny_bind (wpAny_pure (wpAny_bind (wpAny_bind (wpAny_loadPart I.i (wpAny_bind ((looks_clsIn X hc).here ?_))))))
  rw [hd']
  refine wpAny_pure (a := some dx) (wpAny_bind (wpAny_pure (wpAny_bind ?_)))
  unfold nsSet
  refine wpAny_bind (wpAny_bind (wpAny_askSetting (wpAny_pure (wpAny_bind (wpAny_mkText (wpAny_bind (wpAny_loadPart hd ?_)))))))
  dsimp only
  have c : (!es.toArray.any (·.key.isStr name) && es.toArray.any (·.refKey)) = false := by
    rw [show es.toArray.any (·.refKey) = es.any (·.refKey) by simp, he.noref, Bool.and_false]
  rw [aRefKeyMayBeTheName_at, c]
  have up := Heap.get?_update_self (h := s.heap) (f := Obj.putName name (PyData.keyHash G.w.params name) (.str name s.toks) v) hd (by rw [putName_dict]; rfl)
  refine wpAny_updatePart hd ?_
  refine wpAny_bind (wpAny_lookBehind (o := dictOf (putL name (PyData.keyHash G.w.params name) (.str name s.toks) v es) (putN name es k)) (up.trans (by rw [putName_dict])) (pastItsLine_dict ?_) ?_)
  · have := (EntZ.put (hsh := PyData.keyHash G.w.params name) (t := s.toks) (v := v) he hn).length
    rw [List.size_toArray, this, sizeLine_eq]; simp; omega
  · exact wpAny_pure (h _ _ (up.trans (by rw [putName_dict])) ⟨_, _, rfl, EntZ.put he hn⟩ (Heap.SameBut.update ..))
theorem setAttr_self {A : Around} {E : Value → Shared → Prop} {s : Shared} {x dx C : Addr} {ns : List Str} {vs : List Value} {name : Str} {v : Value} {Q : Unit → Shared → Prop} (X : G.K.In s.heap) (I : SelfAt s.heap x dx C ns vs) (ok : storeOk G.K C name = true) (hn : name ∉ ns) (hlen : ns.length ≤ 100)
    (h : ∀ h' o', h'.get? dx = some o' → (∃ es k, o' = dictOf es k ∧ EntZ es (ns ++ [name]) (vs ++ [v])) → Heap.SameBut dx s.heap h' → Q () { s with heap := h', toks := s.toks + 2 }) : wpAny (model G.prog G.w) A (setAttr (.ref x) name v) Q E s := by
  have ok' := ok
  unfold storeOk at ok'
  simp only [Bool.and_eq_true, beq_iff_eq] at ok'
  obtain ⟨⟨⟨h1, h2⟩, h3⟩, h4⟩ := ok'
  obtain ⟨es, k, hd, he⟩ := I.d
  have IA : InstAt s.heap x (instObj C dx) C (some (dictOf es k)) := ⟨I.i, rfl, rfl, hd⟩
  exact set_plain X IA h1 (osa_self (s := { s with toks := s.toks + 1 }) X I ok hn hlen fun h' o' e1 e2 e3 => h h' o' e1 e2 e3)
theorem up_get {h : Heap} {a b : Addr} {f : Obj → Obj} (hb : b ≠ a) : (h.update a f).get? b = h.get? b := (Heap.SameBut.update h a f).2 b hb
theorem up_self {h : Heap} {a : Addr} {o o' : Obj} (e : h.get? a = some o) (hf : o'.isFreed = false) : (h.update a fun _ => o').get? a = some o' := Heap.get?_update_self (fun _ => o') e hf
/-- statements of an __init__: the fields ns stand, with the data l -/
def ExS (G : Gc) (n : Nat) (sc : Scope) (C : Addr) (ρ : Rho) (ns : List Str) (l : List D) (ss : List Stmt) (ns' : List Str) (l' : List D) : Prop :=
  ∀ (A : Around) (env : Env) (g : Heap) (Zg Z : Zm) (s : Shared) (x dx : Addr) (vs : List Value) (Q : Flow → Shared → Prop) (E : Value → Shared → Prop), Room n A → env.scope = sc → SeesF G env g Zg Z ρ s.heap → ρ.lookup (Str.ofString "self") = some (.fz (.addr x)) →
    Zg dx = none → SelfAt g x dx C ns vs → HoldsL Z l vs →
    (∀ g' Z' s' vs', (∃ h' tk, s' = { s with heap := h', toks := tk }) → (∀ b o, g'.get? b = some o → s'.heap.get? b = some o) → Zle Zg Z' → Zin Z' s'.heap → (∀ a o, g.get? a = some o → Zg a = none → Z' a = none) → SelfAt g' x dx C ns' vs' → HoldsL Z' l' vs' → (∀ b, b ≠ dx → g'.get? b = g.get? b) → Q .next s') →
    wpAny (model G.prog G.w) A (execs ss env) Q E s
theorem ExS.nil {C : Addr} {ns : List Str} {l : List D} : ExS G n sc C ρ ns l [] ns l := by
  intro A env g Zg Z s x dx vs Q E rm he S hx hz I hh hq
  exact wpAny_execs_nil (hq g Z s vs ⟨s.heap, s.toks, rfl⟩ S.keep S.zg S.sees.zin S.zng I hh fun _ _ => rfl)
/-- a statement that leaves the fields alone -/
theorem ExS.ex {C : Addr} {ns ns' : List Str} {l l' : List D} {st : Stmt} {ss : List Stmt} {ρ' : Rho} (h : Ex1 G n sc ρ st (.nx ρ')) (hs : ∀ sl, ρ.lookup (Str.ofString "self") = some sl → ρ'.lookup (Str.ofString "self") = some sl) (k : ExS G n sc C ρ' ns l ss ns' l') : ExS G n sc C ρ ns l (st :: ss) ns' l' := by
  intro A env g Zg Z s x dx vs Q E rm he S hx hz I hh hq
  -- told over the frame's own state: the data of the fields go along
  have S0 : SeesF G env g Z Z ρ s.heap := ⟨S.sees, S.keep, Zle.refl _, fun _ _ _ e => e, S.lf, S.nofree, S.cf⟩
  refine wpAny_execs_cons (h A env g Z Z s _ E rm he S0 fun f Z1 s1 hs1 ho => ?_)
  obtain ⟨rfl, S1⟩ := ho
  have S1' : SeesF G env g Zg Z1 ρ' s1.heap := ⟨S1.sees, S1.keep, S.zg.trans S1.zg, fun a o e nz => S1.zng a o e (S.zng a o e nz), S1.lf, S1.nofree, S1.cf⟩
  exact k A env g Zg Z1 s1 x dx vs Q E rm he S1' (hs _ hx) hz I (HoldsL.mono S1.zg hh) fun g' Z' s' vs' hs' => hq g' Z' s' vs' (by obtain ⟨h1, t1, rfl⟩ := hs1; obtain ⟨h2, t2, rfl⟩ := hs'; exact ⟨h2, t2, rfl⟩)
/-- self.name = e -/
theorem ExS.set {C : Addr} {ns ns' : List Str} {l l' : List D} {name : Str} {px apos pos : Pos} {e : Expr} {d : D} {ss : List Stmt} (h : Ev G n sc ρ e d) (ok : storeOk G.K C name = true) (hn : name ∉ ns) (hlen : ns.length ≤ 100)
    (hsw : ∀ env : Env, env.scope = sc → swapsWith e (some (.Attribute (.Name (Str.ofString "self") px) name apos)) pos.line env = pure false) (k : ExS G n sc C ρ (ns ++ [name]) (l ++ [d]) ss ns' l') : ExS G n sc C ρ ns l (.Assign [.Attribute (.Name (Str.ofString "self") px) name apos] e pos :: ss) ns' l' := by
  intro A env g Zg Z s x dx vs Q E rm he S hx hz I hh hq
  refine wpAny_execs_cons (plainObj_wpAny_Assign_Attribute (h A env g Z s _ E rm he S.sees fun v Z1 s1 st1 hv => ?_) (hsw env he))
  have S1 := S.step st1
  refine wpAny_Name (S1.sees.load hx (fun w o _ hsl => ?_) (by decide)) (by decide)
  have ew : w = .ref x := hsl.2
  subst ew
  obtain ⟨es, kk, hd, hent⟩ := I.d
  have I1 : SelfAt s1.heap x dx C ns vs := ⟨S1.keep _ _ I.i, es, kk, S1.keep _ _ hd, hent⟩
  refine setAttr_self (S1.sees.z0.bs S1.sees.zin).k I1 ok hn hlen fun h' o' e1 ⟨es', k', e2, hent'⟩ hsb => ?_
  subst e2
  have hdz : Z1 dx = none := S1.zng dx _ hd hz
  have hgx : x ≠ dx := fun q => by subst q; rw [I.i] at hd; cases hd
  let g' : Heap := g.update dx fun _ => dictOf es' k'
  have gd : g'.get? dx = some (dictOf es' k') := up_self hd rfl
  have go : ∀ b, b ≠ dx → g'.get? b = g.get? b := fun b hb => up_get hb
  have ldx : env.locals ≠ dx := fun q => by rw [← q, S1.lf] at hd; cases hd
  have u : UStep (fun b => b = dx) Z1 s1 Z1 { s1 with heap := h', toks := s1.toks + 2 } := ⟨⟨h', _, rfl⟩, fun b o nb q => (hsb.2 b nb).trans q, Zle.refl _, fun a o q => (hsb.2 a fun r => by rw [r, hdz] at q; cases q).trans (S1.sees.zin a o q), fun _ _ _ _ q => q⟩
  have S2 : SeesF G env g' Zg Z1 ρ h' := by
    refine ⟨(S1.sees.ustep u (fun m hm q => ldx q) (fun c v hc hk q => ?_) (fun pl V y b vs hl hy q => ?_)).base fun pl V y a hy => ?_, fun b o q => ?_, S1.zg, fun a o q nz => ?_, ?_, S1.nofree, fun y c hk hc => ?_⟩
    · obtain ⟨y, hk, hc⟩ := hk
      rcases hk with hk | hk
      · have := S1.cf y c hk hc; rw [q, hd] at this; cases this
      · exact S1.nofree y hk
    · have := V.og y b hy; rw [q, hd] at this; cases this
    · have := V.og y a hy
      rw [go a fun q => by rw [q, hd] at this; cases this]; exact this
    · by_cases hb : b = dx
      · subst hb; rw [gd] at q; cases q; exact e1
      · rw [go b hb] at q; exact (hsb.2 b hb).trans (S1.keep b o q)
    · by_cases hb : a = dx
      · subst hb; exact hdz
      · rw [go a hb] at q; exact S1.zng a o q nz
    · rw [go _ ldx]; exact S1.lf
    · have := S1.cf y c hk hc
      rw [go c fun q => by rw [q, hd] at this; cases this]; exact this
  refine k A env g' Zg Z1 _ x dx (vs ++ [v]) Q E rm he S2 hx hz ⟨(go x hgx).trans I.i, es', k', gd, hent'⟩ ((HoldsL.mono st1.z hh).append (HoldsL.one hv)) fun g2 Z2 s2 vs2 hs2 a1 a2 a3 a4 a5 a6 a7 => ?_
  refine hq g2 Z2 s2 vs2 (by obtain ⟨h1, t1, rfl⟩ := st1.st; obtain ⟨h2, t2, rfl⟩ := hs2; exact ⟨h2, t2, rfl⟩) a1 a2 a3 (fun a o q nz => ?_) a5 a6 fun b hb => (a7 b hb).trans (go b hb)
  by_cases hb : a = dx
  · subst hb; exact a4 a _ gd nz
  · exact a4 a o ((go a hb).trans q) nz
end
end M3
end
-- part C28
section
namespace M3
open PySem PySem.Calls PySem.Spec PyProof.Rows PySem.W PySem.Builtin PySem.Builtin.Str
section
variable {G : Gc} {n : Nat} {A : Around}
theorem under_new (C : Addr) (vs : List Value) (A : Around) : (A.under (.builtin "type.__call__" ⟨.ref C :: vs, []⟩)).depth = A.depth + 1 ∧ (A.under (.builtin "type.__call__" ⟨.ref C :: vs, []⟩)).units = A.units + 1 ∧ (A.under (.builtin "type.__call__" ⟨.ref C :: vs, []⟩)).handled = A.handled := ⟨rfl, rfl, rfl⟩
theorem Room.make {C : Addr} {vs : List Value} {env : Env} (r : Room (n + 1) A) : Room n ((A.under (.builtin "type.__call__" ⟨.ref C :: vs, []⟩)).deeper env) := by
  obtain ⟨h1, h2, h3⟩ := under_new C vs A
  refine ⟨h3.trans r.hh, ?_, ?_⟩
  · show (A.under _).depth + 1 + 5 * n < recursionLimit
    rw [h1]; have := r.hd; omega
  · show (A.under _).units + 3 + 50 * n < cLine
    rw [h2]; have := r.hu; omega
/-- making an made object of a class of the text -/
theorem Cv.make {C f : Addr} {fd : FuncData} {body : List Stmt} {ps : List Str} {ds : List D} {nsF : List Str} {lF : List D} (hm : makesIn G.K C = true) (hi : findIn G.K (.ref C) "__init__" = some (some (.ref f))) (hf : typeIn G.K (.ref f) = some (.type "function")) (F : FnAt G f fd body)
    (hbind : ∀ v vs, vs.length = ds.length → bindArgs fd ⟨v :: vs, []⟩ = pure ((Str.ofString "self" :: ps).zip (v :: vs))) (hnd : (Str.ofString "self" :: ps).Nodup) (hlen : ps.length = ds.length)
    (hkind : ((Str.ofString "self" :: ps).all fun y => fd.scope.names.lookup y == some .local || fd.scope.names.lookup y == some .cell) = true)
    (h : ∀ x, ExS G n fd.scope C ((Str.ofString "self", .fz (.addr x)) :: rho0 ps ds) [] [] body nsF lF) : Cv G (n + 1) (.ref C) ds (.inst C nsF lF) := by
  intro A Z s vs Q E rm z0 zin hh hq
  have hl : vs.length = ds.length := hh.length
  refine wpAny_call ?_
  obtain ⟨hp, gs, dr, tk, os⟩ := s
  have X := (z0.bs zin).k
  refine make_core (makes_of X hm) (looks_findIn X hi) (fun self => bind_fn X self hf) (.inl rfl) ?_
  let h2 : Heap := (hp.push emptyDict).push (instObj C hp.objs.size)
  have k2 : ∀ b o, hp.get? b = some o → h2.get? b = some o := fun b o e => Heap.get?_push_of_some _ (Heap.get?_push_of_some _ e)
  have hx2 : h2.get? (hp.objs.size + 1) = some (instObj C hp.objs.size) := by
    have := Heap.get?_push_size (hp.push emptyDict) (o := instObj C hp.objs.size) rfl
    rw [Heap.size_push] at this; exact this
  have hd2 : h2.get? hp.objs.size = some emptyDict := Heap.get?_push_of_some _ (Heap.get?_push_size _ rfl)
  have zin2 : Zin Z h2 := fun a o e => k2 a o (zin a o e)
  have zx : Z (hp.objs.size + 1) = none := zin.none (le_none (Nat.le_succ _))
  have zd : Z hp.objs.size = none := zin.none (le_none (Nat.le_refl _))
  have hmap : ((Str.ofString "self" :: ps).zip (Value.ref (hp.objs.size + 1) :: vs)).map (·.1) = Str.ofString "self" :: ps := by rw [List.map_fst_zip]; simp; omega
  have hr := under_new C vs A
  refine enter (s := ⟨h2, gs, dr, tk, os⟩) (g := h2) F (by rw [hr.1]; have := rm.hd; omega) z0 zin2 (fun _ _ e => e) (BindsTo.of_eq (hbind _ vs hl)) (by rw [hmap]; exact hnd) ?_ (fun _ => none) (ρ₀ := (Str.ofString "self", .fz (.addr (hp.objs.size + 1))) :: rho0 ps ds) (fun y sl e => ?_) (fun _ _ => rfl) (fun _ _ _ e => nomatch e) (fun _ _ e => nomatch e) fun env s₁ hs hk he S => ?_
  · rw [List.all_eq_true]
    intro p hp'
    have : p.1 ∈ Str.ofString "self" :: ps := by have := List.mem_map_of_mem (f := (·.1)) hp'; rwa [hmap] at this
    exact List.all_eq_true.mp hkind _ this
  · rw [List.lookup_cons] at e
    rw [List.zip_cons_cons, List.lookup_cons]
    cases b : y == Str.ofString "self" with
    | true => rw [b] at e; cases e; exact ⟨_, rfl, rfl, rfl⟩
    | false => rw [b] at e; exact rho0_at hh e
  · refine h (hp.objs.size + 1) _ env h2 Z Z s₁ (hp.objs.size + 1) hp.objs.size [] _ _ (rm.make) he S rfl zd ⟨hx2, [], 0, hd2, trivial⟩ rfl fun g' Z' s' vs' hs' a1 a2 a3 a4 a5 a6 a7 => ?_
    refine ⟨rfl, ?_⟩
    obtain ⟨es, kk, gd, hent⟩ := a5.d
    have st0 : PStep Z ⟨hp, gs, dr, tk, os⟩ Z' s' := by
      refine ⟨?_, fun b o e => ?_, a2, a3, fun a o e nz => a4 a o (k2 a o e) nz⟩
      · obtain ⟨q1, q2, rfl⟩ := hs; obtain ⟨q3, q4, rfl⟩ := hs'; exact ⟨q3, q4, rfl⟩
      · have : b ≠ hp.objs.size := Nat.ne_of_lt (Heap.lt_size e)
        exact a1 b o ((a7 b this).trans (k2 b o e))
    have st1 := st0.freeze (a := hp.objs.size) (o := dictOf es kk) fresh_none (a4 _ _ hd2 zd) (a1 _ _ gd)
    have nx : hp.objs.size + 1 ≠ hp.objs.size := Nat.succ_ne_self _
    have st2 := st1.freeze (a := hp.objs.size + 1) (o := instObj C hp.objs.size) (le_none (Nat.le_succ _)) (by rw [Zm.add_other _ _ nx]; exact a4 _ _ hx2 zx) (a1 _ _ a5.i)
    refine hq _ _ s' st2 ⟨_, vs', rfl, ⟨hp.objs.size, es, kk, Zm.add_self .., ?_, hent⟩, HoldsL.mono ?_ a6⟩
    · rw [Zm.add_other _ _ (Ne.symm nx)]; exact Zm.add_self ..
    · exact (Zm.le_add (a4 _ _ hd2 zd)).trans (Zm.le_add (by rw [Zm.add_other _ _ nx]; exact a4 _ _ hx2 zx))
end
end M3
end
-- part C29
section
namespace M3
open PySem PySem.Calls PySem.Spec PyProof.Rows PySem.W PySem.Builtin PySem.Builtin.Str
/-- the signs of a text -/
def signs (l : List Nat) : List D := l.map fun c => .str ⟨#[c]⟩
section
variable {G : Gc} {n : Nat} {sc : Scope} {ρ : Rho} {A : Around} {tgs : List Str}
theorem strIter_get {h : Heap} {a : Addr} {ty : String} {x : Str} {t : Tok} {i : Nat} (y : h.IsStrIter a ty x t i) : ∃ o, h.get? a = some o ∧ Odd o := let ⟨o, ho, _, hd⟩ := y; ⟨o, ho, .fields hd⟩
theorem Feeds.ascii (hh : A.handled = none) {tg : Expr} {y : Str} {py : Pos} (ht : tg = .Name y py) {I : Addr} {x : Str} {t : Tok} {B : Addr → Prop} : ∀ (l : List Nat) (i : Nat) (Z : Zm) (h : Heap), x.cps.toList.drop i = l → h.IsStrIter I "str_ascii_iterator" x t i → Feeds G A tg (.ref I) (signs l) Z (fun b => b = I) B h
  | [], i, Z, h, hl, hit => by
    intro s Z₁ Q E C hq
    have hit' : s.heap.IsStrIter I "str_ascii_iterator" x t i := let ⟨o, e, r⟩ := hit; ⟨o, C.u _ _ rfl e, r⟩
    have hx : x.cps[i]? = none := by
      have := List.drop_eq_nil_iff.mp hl
      simpa using this
    refine wpAny_pyNext_ascii_end hh hit' hx fun h' hx' => ?_
    exact hq _ ⟨⟨h', s.toks, rfl⟩, fun b o nb e => hx' b o nb e, Zle.refl _, fun a o e => hx' a o (fun q => by subst q; rw [C.uz _ rfl] at e; cases e) (C.zin _ _ e), fun _ _ _ _ e => e⟩
  | c :: l, i, Z, h, hl, hit => by
    intro s Z₁ Q E C hq
    have hit' : s.heap.IsStrIter I "str_ascii_iterator" x t i := let ⟨o, e, r⟩ := hit; ⟨o, C.u _ _ rfl e, r⟩
    have hx : x.cps[i]? = some c := by
      have : (x.cps.toList.drop i)[0]? = some c := by rw [hl]; rfl
      simpa using this
    have hl' : x.cps.toList.drop (i + 1) = l := by rw [← List.drop_drop, hl]; rfl
    refine wpAny_pyNext_ascii_item hit' hx fun h' hit'' hs => ?_
    subst ht
    refine wpAny_pure ?_
    have up : ∀ a o, Z₁ a = some o → h'.get? a = some o := fun a o e => (hs.2 a fun q => by subst q; rw [C.uz _ rfl] at e; cases e).trans (C.zin _ _ e)
    exact hq _ Z₁ (fun b => b = I) { s with heap := h', toks := s.toks + 1 } ⟨⟨h', _, rfl⟩, fun b o nb e => hs.extBut b o nb e, Zle.refl _, up, fun _ _ _ _ e => e⟩ ⟨_, rfl⟩ (Feeds.ascii hh rfl l (i + 1) Z₁ h' hl' hit'') (fun b e => e) (fun b e => by subst e; exact strIter_get hit'') fun b e => C.uz b e
/-- for ch in self.name: the field is a text -/
theorem ExS.forStr {C : Addr} {ns ns' : List Str} {l l' : List D} {name y : Str} {px py apos pos : Pos} {x : Str} {body ss : List Stmt} {ρ' : Rho} (ok : attrOk G.K C name = true) (hd : dAt ns l name = some (.str x)) (hx : x.cps.all (· < 128) = true)
    (ft : ForTo G n sc tgs (.Name y py) body (signs x.cps.toList) ρ (.nx ρ')) (hself : ∀ sl, ρ.lookup (Str.ofString "self") = some sl → ρ'.lookup (Str.ofString "self") = some sl)
    (he : ∀ env, eval (.Attribute (.Name (Str.ofString "self") px) name apos) env = (do
      let ov ← eval (.Name (Str.ofString "self") px) env
      standAt apos.atName
      let r ← holding [ov] (getAttr ov name true)
      letTemporaryGo (.Name (Str.ofString "self") px) ov r
      pure r))
    (k : ExS G n sc C ρ' ns l ss ns' l') : ExS G n sc C ρ ns l (.For (.Name y py) (.Attribute (.Name (Str.ofString "self") px) name apos) body [] pos :: ss) ns' l' := by
  intro A env g Zg Z s a dx vs Q E rm hsc S hself' hz I hh hq
  have S0 : SeesF G env g Z Z ρ s.heap := ⟨S.sees, S.keep, Zle.refl _, fun _ _ _ e => e, S.lf, S.nofree, S.cf⟩
  refine wpAny_execs_cons (wpAny_For ?_ fun _ => rfl)
  refine Attribute_any_ (wpAny_Name (S.sees.load hself' (fun w o _ hsl => ?_) (by decide)) (by decide)) (he env)
  have ew : w = .ref a := hsl.2
  subst ew
  obtain ⟨es, kk, hdd, hent⟩ := I.d
  have IA : InstAt s.heap a (instObj C dx) C (some (dictOf es kk)) := ⟨S.keep _ _ I.i, rfl, rfl, S.keep _ _ hdd⟩
  obtain ⟨w, ew, hw⟩ := hh.atName hd
  unfold attrOk at ok
  obtain ⟨ok, h3⟩ := Bool.and_eq_true_iff.mp ok
  obtain ⟨h1, h2⟩ := Bool.and_eq_true_iff.mp ok
  cases q : findIn G.K (.ref C) name with
  | none => rw [q] at h3; cases h3
  | some attr =>
  rw [q] at h3
  refine get_value (S.sees.z0.bs S.sees.zin).k IA (plainGet_of h1).1 (findObj_own h2 q h3 (by rw [lookIn_dict, getL_ent hent, ew])) (holds_handed hw) ?_
  obtain ⟨t, rfl⟩ := hw
  refine wpAny_pyIter_ascii hx ?_
  let s1 : Shared := { s with heap := s.heap.push { cls := .type "str_ascii_iterator", data := .fields #[.str x t, .int 0 0] }, toks := s.toks + 1 }
  have st : PStep Z s Z s1 := PStep.same (h' := s1.heap) (tk := s.toks + 1) S.sees.zin fun _ _ e => Heap.get?_push_of_some _ e
  have hit : s1.heap.IsStrIter s.heap.objs.size "str_ascii_iterator" x t 0 := ⟨_, Heap.get?_push_size _ rfl, rfl, rfl⟩
  have zI : Z s.heap.objs.size = none := S.sees.zin.none fresh_none
  have gI : g.get? s.heap.objs.size = none := by
    cases q : g.get? s.heap.objs.size with
    | none => rfl
    | some o => have := S.keep _ _ q; rw [fresh_none] at this; cases this
  refine for_run (s₀ := s) (out := .nx ρ') (g := g) (Zg := Z) (B := fun _ => False) rm hsc (fun _ h => h) (fun f Z' s' hs ho => ?_) (signs x.cps.toList) ρ Z (fun b => b = s.heap.objs.size) s1.heap (Feeds.ascii rm.hh rfl x.cps.toList 0 Z s1.heap rfl hit) s1 Z ⟨_, _, rfl⟩ ⟨fun _ _ _ e => e, fun _ _ _ e => e, Zle.refl _, st.zin, fun b e => by subst e; exact zI⟩
    (fun b e => by subst e; exact strIter_get hit) (fun b e => by subst e; exact gI) (S0.step st) ft
  obtain ⟨rfl, S1⟩ := ho
  have S1' : SeesF G env g Zg Z' ρ' s'.heap := ⟨S1.sees, S1.keep, S.zg.trans S1.zg, fun a o e nz => S1.zng a o e (S.zng a o e nz), S1.lf, S1.nofree, S1.cf⟩
  exact k A env g Zg Z' s' a dx vs Q E rm hsc S1' (hself _ hself') hz I (HoldsL.mono S1.zg hh) fun g' Z2 s2 vs' hs' => hq g' Z2 s2 vs' (st_tr hs hs')
end
end M3
end
-- part C30
section
namespace M3
open PySem
def env0 (sc : Scope) : Env := { scope := sc, locals := 0, globals := 0, cells := [], qual := Str.empty, func := none, code := .none, frame := none, builtins := 0 }
theorem swappedStores_env (t : List Expr) (v : Expr) (env : Env) : swappedStores t v env = swappedStores t v (env0 env.scope) := rfl
theorem swapsWith_env (v : Expr) (t : Option Expr) (l : Nat) (env : Env) : swapsWith v t l env = swapsWith v t l (env0 env.scope) := rfl
theorem interactive_env (env : Env) : interactive env = interactive (env0 env.scope) := rfl
theorem stores_at {t : List Expr} {v : Expr} {sc : Scope} {r : Sem (Option (List Str))} (h : swappedStores t v (env0 sc) = r) : ∀ env : Env, env.scope = sc → swappedStores t v env = r := fun env he => by rw [swappedStores_env, he]; exact h
theorem swaps_at {v : Expr} {t : Option Expr} {l : Nat} {sc : Scope} {r : Sem Bool} (h : swapsWith v t l (env0 sc) = r) : ∀ env : Env, env.scope = sc → swapsWith v t l env = r := fun env he => by rw [swapsWith_env, he]; exact h
theorem inter_at {sc : Scope} (h : interactive (env0 sc) = false) : ∀ env : Env, env.scope = sc → interactive env = false := fun env he => by rw [interactive_env, he]; exact h
section
variable {G : Gc} {n : Nat} {sc : Scope} {ρ : Rho} {tgs : List Str}
theorem ForTo.fold {α St : Type} {tg : Expr} {body : List Stmt} (f : St → α → St) (dd : α → D) (R : St → Rho) (I : Nat → St → Prop) (good : α → Prop) {N : Nat}
    (step : ∀ k st a, k < N → I k st → good a → I (k + 1) (f st a) ∧ ∃ ρ₁, Tg G sc tgs (R st) tg (dd a) ρ₁ ∧ Ex G n sc ρ₁ body (.nx (R (f st a)))) :
    ∀ (l : List α) (k : Nat) (st : St), k + l.length ≤ N → I k st → (∀ a ∈ l, good a) → ForTo G n sc tgs tg body (l.map dd) (R st) (.nx (R (l.foldl f st)))
  | [], k, st, _, _, _ => rfl
  | a :: l, k, st, hk, hi, hg => by
    rw [List.length_cons] at hk
    obtain ⟨h1, ρ₁, t, e⟩ := step k st a (by omega) hi (hg a List.mem_cons_self)
    exact ⟨ρ₁, t, .inl ⟨_, e, ForTo.fold f dd R I good step l (k + 1) (f st a) (by omega) h1 fun b hb => hg b (List.mem_cons_of_mem _ hb)⟩⟩
theorem Tr.of {e : Expr} {b b' : Bool} (h : Tr G n sc ρ e b) (hb : b = b') : Tr G n sc ρ e b' := hb ▸ h
theorem Ev.of {e : Expr} {d d' : D} (h : Ev G n sc ρ e d) (hb : d = d') : Ev G n sc ρ e d' := hb ▸ h
theorem EvL.of {e : Expr} {d d' : List D} (h : EvL G n sc ρ e d) (hb : d = d') : EvL G n sc ρ e d' := hb ▸ h
theorem Ex.of {ss : List Stmt} {o o' : Out} (h : Ex G n sc ρ ss o) (hb : o = o') : Ex G n sc ρ ss o' := hb ▸ h
theorem Ex1.of {ss : Stmt} {o o' : Out} (h : Ex1 G n sc ρ ss o) (hb : o = o') : Ex1 G n sc ρ ss o' := hb ▸ h
end
end M3
end
-- part C31
section
namespace M3
open PySem PySem.Calls PySem.Spec PyProof.Rows PySem.W PySem.Builtin PySem.Builtin.Str
section
variable (G : Gc)
/-- a call with one keyword -/
def Cvk (n : Nat) (f : Value) (ds : List D) (nm : Str) (kd d : D) : Prop :=
  ∀ (A : Around) (Z : Zm) (s : Shared) (vs : List Value) (kv : Value) (Q : Value → Shared → Prop) (E : Value → Shared → Prop), Room n A → G.Z0 Z → Zin Z s.heap → HoldsL Z ds vs → Holds Z kd kv →
    (∀ v Z' s', PStep Z s Z' s' → Holds Z' d v → Q v s') → wpAny (model G.prog G.w) A (call f vs [(nm, kv)]) Q E s
def CvkL (n : Nat) (f : Value) (ds : List D) (nm : Str) (kd : D) (l : List D) : Prop :=
  ∀ (A : Around) (Z : Zm) (s : Shared) (vs : List Value) (kv : Value) (Q : Value → Shared → Prop) (E : Value → Shared → Prop), Room n A → G.Z0 Z → Zin Z s.heap → HoldsL Z ds vs → Holds Z kd kv →
    (∀ a vs' Z' s', PStep Z s Z' s' → s.heap.get? a = none → Z' a = none → PL s'.heap a vs'.toArray → HoldsL Z' l vs' → Q (.ref a) s') → wpAny (model G.prog G.w) A (call f vs [(nm, kv)]) Q E s
end
section
variable {G : Gc} {n : Nat} {sc : Scope} {ρ : Rho}
theorem kw_some {pos : Pos} {nm : Str} {e : Expr} {kp : Pos} {env : Env} : (backToKw pos (keywordEach [⟨some nm, e, kp⟩] env)).all (·.1.isSome) = true := rfl
theorem callWith_kw1 {A : Around} {E : Value → Shared → Prop} {env : Env} {g Z} {s : Shared} {pos kp : Pos} {f : Value} {first : List Value} {e₀ : Expr} {es : List Expr} {ds : List D} {nm : Str} {ke : Expr} {kd : D} {Q : Value → Shared → Prop} (S : Sees G env g Z ρ s.heap)
    (rm : Room n A) (he : env.scope = sc) (hk : Kpr G f) (hs : noStar (e₀ :: es) = true) (hse : starEach (e₀ :: es) env = (false, eval e₀ env) :: starEach es env) (x : Evs G n sc ρ (e₀ :: es) ds) (y : Ev G n sc ρ ke kd)
    (h : ∀ vs kv Z' s', PStep Z s Z' s' → HoldsL Z' ds vs → Holds Z' kd kv → wpAny (model G.prog G.w) A (call f (first ++ vs) [(nm, kv)]) Q E s') :
    wpAny (model G.prog G.w) A (callWith pos f first (backTo pos (starEach (e₀ :: es) env)) (backToKw pos (keywordEach [⟨some nm, ke, kp⟩] env))) Q E s := by
  have hp := back_plain (pos := pos) (star_plain (e₀ :: es) hs env)
  refine callWith_of (P := fun h => G.Bs h) (by rw [hp]; rfl) hk (evalArgs_kw2 kw_some ?_ hse)
  refine x pos A env g Z s _ E rm he S fun vs Z1 s1 st1 hv => ?_
  refine kwAll_cons (y A env g Z1 s1 _ E rm he (S.step st1) fun kv Z2 s2 st2 hkv => kwAll_nil ?_)
  exact ⟨((S.step st1).step st2).z0.bs st2.zin, h vs kv Z2 s2 (st1.trans st2) (HoldsL.mono st2.z hv) hkv⟩
theorem EvL.callKw {x : Str} {np pos kp : Pos} {e₀ : Expr} {es : List Expr} {nm : Str} {ke : Expr} {kd : D} {v : Value} {ds l : List D} (c : Callee G sc x v) (hk : Kpr G v) (a : Evs G n sc ρ (e₀ :: es) ds) (hs : noStar (e₀ :: es) = true) (hse : ∀ env, starEach (e₀ :: es) env = (false, eval e₀ env) :: starEach es env) (y : Ev G n sc ρ ke kd) (f : CvkL G n v ds nm kd l) :
    EvL G n sc ρ (.Call (.Name x np) (e₀ :: es) [⟨some nm, ke, kp⟩] pos) l := by
  intro A env g Z s Q E rm he S h
  refine wpAny_Call_Name_kw (c.eval S he ?_)
  refine callWith_kw1 S rm he hk hs (hse env) a y fun vs kv Z1 s1 st1 hv hkv => ?_
  exact f A Z1 s1 vs kv Q E rm (S.step st1).z0 st1.zin hv hkv fun a vs' Z2 s2 st2 hn hz hl hh => h a vs' Z2 s2 (st1.trans st2) (none_of_keep st1.keep hn) hz hl hh
def MethShapeK (o : Expr) (name : Str) (apos : Pos) (es : List Expr) (kws : List Keyword) (pos : Pos) : Prop := ∀ env, ∃ pl, eval (.Call (.Attribute o name apos) es kws pos) env = (do
      let ov ← eval o env
      standAt apos.atName
      let (f, first) ← holding [ov] (getMethod ov name pl)
      callWith pos f first (backTo pos (starEach es env)) (backToKw pos (keywordEach kws env)))
theorem Ev.methKw {o : Expr} {name : Str} {apos pos kp : Pos} {e₀ : Expr} {es : List Expr} {nm : Str} {ke : Expr} {kd b d : D} {ds : List D} (sh : MethShapeK o name apos (e₀ :: es) [⟨some nm, ke, kp⟩] pos) (x : Ev G n sc ρ o b) (m : Mt G n name b (fun f fs => Cvk G n f (fs ++ ds) nm kd d))
    (a : Evs G n sc ρ (e₀ :: es) ds) (hs : noStar (e₀ :: es) = true) (hse : ∀ env, starEach (e₀ :: es) env = (false, eval e₀ env) :: starEach es env) (y : Ev G n sc ρ ke kd) : Ev G n sc ρ (.Call (.Attribute o name apos) (e₀ :: es) [⟨some nm, ke, kp⟩] pos) d := by
  intro A env g Z s Q E rm he S h
  obtain ⟨pl, e⟩ := sh env
  refine methodCall_KW (pl := pl) (x A env g Z s _ E rm he S fun v Z1 s1 st1 hv => m A Z1 s1 v pl _ E rm (S.step st1).z0 st1.zin hv fun f fs fds hk hc hf => ?_) e
  refine callWith_kw1 (S.step st1) rm he hk hs (hse env) a y fun vs kv Z2 s2 st2 hvs hkv => ?_
  exact hc A Z2 s2 (fs ++ vs) kv Q E rm ((S.step st1).step st2).z0 st2.zin ((HoldsL.mono st2.z hf).append hvs) hkv fun v Z3 s3 st3 h3 => h v Z3 s3 ((st1.trans st2).trans st3) h3
theorem Cvk.fn {f ds nm kd d} (h : Cvk G n (.ref f) ds nm kd d) : Cvk G n (.ref f) ds nm kd d := h
/-- sorted(ints, reverse=True) -/
def sortRev (l : List Int) : List Int := l.mergeSort (fun a b => decide (b ≤ a))
theorem sortRev_perm (l : List Int) : (sortRev l).Perm l := List.mergeSort_perm ..
theorem sortRev_sorted (l : List Int) : (sortRev l).Pairwise (· ≥ ·) := by
  have := List.pairwise_mergeSort (le := fun a b : Int => decide (b ≤ a)) (fun a b c h1 h2 => by simp at h1 h2 ⊢; omega) (fun a b => by simp; omega) l
  exact this.imp fun h => by simpa using h
theorem perm_sorted_eq {l m : List Int} (hp : l.Perm m) (h1 : l.Pairwise (· ≥ ·)) (h2 : m.Pairwise (· ≥ ·)) : l = m :=
  List.Perm.eq_of_pairwise (fun a b _ _ h h' => by omega) h1 h2 hp
theorem sortedNew {Z : Zm} {s : Shared} {vs : List Value} {out : Array Value} {l : List D} {Q : Value → Shared → Prop} (zin : Zin Z s.heap) (hh : HoldsL Z l out.toList)
    (h : ∀ a vs Z' s', PStep Z s Z' s' → s.heap.get? a = none → Z' a = none → PL s'.heap a vs.toArray → HoldsL Z' l vs → Q (.ref a) s') : Q (.ref (s.heap.objs.size + 1)) { s with heap := sortedAll s.heap vs out } := by
  obtain ⟨e, he⟩ := sortedAll_at s.heap vs out
  refine h _ out.toList Z _ (PStep.same (h' := sortedAll s.heap vs out) (tk := s.toks) zin fun _ _ => sortedAll_old) (le_none (Nat.le_succ _)) (zin.none (le_none (Nat.le_succ _))) ?_ hh
  exact PL.of (n := e) (by simpa using he)
theorem CvkL.sortedRev {l : List Int} (h64 : l.length < 64) : CvkL G n (.builtin "sorted") [.list (dI l)] (Str.ofString "reverse") (.bool true) (dI (sortRev l)) := by
  intro A Z s vs kv Q E rm z0 zin h hk hq
  obtain ⟨v, rfl, a, us, rfl, hs, hh⟩ := one h
  have : kv = .bool true := hk
  subst this
  refine sorted_ints_rev (b := true) (hs.list zin) hh.ints (by rw [hh.length]; simpa [dI] using h64) fun out ns' a1 a2 a3 => ?_
  have e : ns' = sortRev l := perm_sorted_eq (a2.trans (sortRev_perm l).symm) (by simpa [Ordered] using a3) (sortRev_sorted l)
  subst e
  exact sortedNew zin (HoldsL.ofInts a1) hq
end
end M3
end
-- part C32
section
namespace M3
open PySem PySem.Calls PySem.Spec PyProof.Rows PySem.W PySem.Builtin PySem.Builtin.Str
abbrev q (s : String) : Str := Str.ofString s
theorem LFs_int : ∀ l : List Int, LFs (dI l) = true
  | [] => rfl
  | _ :: l => by simpa [dI, LFs, LF] using LFs_int l
theorem rep_one (k : Nat) : (List.replicate k [D.int 0]).flatten = dI (List.replicate k 0) := by
  induction k with
  | zero => rfl
  | succ k ih => rw [List.replicate_succ, List.flatten_cons, ih]; simp [dI, List.replicate_succ]
theorem dI_append (l m : List Int) : dI l ++ dI m = dI (l ++ m) := by simp [dI]
theorem dI_set (l : List Int) (j : Nat) (v : Int) : (dI l).set j (.int v) = dI (l.set j v) := by simp [dI]
theorem dI_getElem? (l : List Int) (j : Nat) (h : j < l.length) : (dI l)[j]? = some (.int (l.getD j 0)) := by simp [dI, h]
theorem dI_length (l : List Int) : (dI l).length = l.length := by simp [dI]
/-- k, k-1, ..., 1 -/
def dn : Nat → List Int
  | 0 => []
  | k + 1 => ((k + 1 : Nat) : Int) :: dn k
theorem rangeL_dn : ∀ k : Nat, rangeL (k : Int) (-1) k = (dn k).map D.int
  | 0 => rfl
  | k + 1 => by
    rw [rangeL, dn, List.map_cons, show (((k + 1 : Nat) : Int) + -1) = (k : Int) by omega, rangeL_dn k]
theorem mem_dn : ∀ {k : Nat} {j : Int}, j ∈ dn k → 1 ≤ j ∧ j ≤ k
  | 0, j, h => by cases h
  | k + 1, j, h => by
    rcases List.mem_cons.mp h with rfl | h
    · omega
    · have := mem_dn h; omega
theorem rangeL_up (a : Int) : ∀ k : Nat, rangeL a 1 k = ((List.range k).map fun (i : Nat) => a + (i : Int)).map D.int
  | 0 => rfl
  | k + 1 => by
    rw [rangeL, rangeL_up (a + 1) k, List.range_succ_eq_map]
    simp [List.map_map, Function.comp_def]
    intro j hj; omega
section
variable {G : Gc} {n : Nat} {sc : Scope} {ρ : Rho} {tgs : List Str}
theorem Turns.one {pt} {α : Type} {e : α → D} {f : α → D} : ∀ (l : List α), (∀ a ∈ l, Turn G n sc tgs ρ pt (e a) [f a]) → Turns G n sc tgs ρ pt (l.map e) (l.map f)
  | [], _ => rfl
  | a :: l, h => ⟨[f a], l.map f, rfl, h a List.mem_cons_self, Turns.one l fun b hb => h b (List.mem_cons_of_mem _ hb)⟩
theorem Turns.flat {pt} {α : Type} {e : α → D} {f : α → List D} : ∀ (l : List α), (∀ a ∈ l, Turn G n sc tgs ρ pt (e a) (f a)) → Turns G n sc tgs ρ pt (l.map e) (l.flatMap f)
  | [], _ => rfl
  | a :: l, h => ⟨f a, l.flatMap f, List.flatMap_cons, h a List.mem_cons_self, Turns.flat l fun b hb => h b (List.mem_cons_of_mem _ hb)⟩
theorem Ev.neg {x : Expr} {pos : Pos} {i : Int} (h : Ev G n sc ρ x (.int i)) : Ev G n sc ρ (.UnaryOp .USub x pos) (.int (-i)) := by
  intro A env g Z s Q E rm he S hq
  refine UnaryOp_ (h A env g Z s _ E rm he S fun v Z1 s1 st1 hv => ?_)
  obtain ⟨t, rfl⟩ := hv
  exact PySem.P.neg_int (hq _ Z1 _ (st1.trans (PStep.tok st1.zin _)) ⟨_, rfl⟩)
theorem Cv.lenT {l : List D} (hl : l.length < 2 ^ 62) : Cv G n (.builtin "len") [.tup l] (.int l.length) := by
  intro A Z s vs Q E rm z0 zin h hq
  obtain ⟨v, rfl, a, us, rfl, hs, hh⟩ := one h
  have hlen := hh.length
  obtain ⟨⟨c, d, dt, sl⟩, e, ⟨p1, p2, p3⟩, k, hd⟩ := hs
  dsimp only at p1 p2 p3 hd; subst p1 p2 p3 hd
  refine PySem.P.len_tuple (zin _ _ e) (by simp; omega) ?_
  rw [show us.toArray.size = l.length by simp [hlen]]
  exact hq _ Z _ (PStep.tok zin _) ⟨_, rfl⟩
theorem It.range1' {tg e : Expr} {x : Str} {px np pos : Pos} (ht : tg = .Name x px) (c : Callee G sc (Str.ofString "range") (.type "range")) {k : Nat} (hk : k < 1000000) (a : Ev G n sc ρ e (.int k)) (hs : noStar [e] = true)
    (hse : ∀ env, starEach [e] env = (false, eval e env) :: starEach [] env) : It G n sc ρ tg (.Call (.Name (Str.ofString "range") np) [e] [] pos) (((List.range k).map fun (i : Nat) => (i : Int)).map D.int) false := by
  have := It.range1 (G := G) (n := n) (sc := sc) (ρ := ρ) (np := np) (pos := pos) ht c (k := k) (by omega) (by omega) a hs hse
  rw [rangeL_up] at this
  simpa using this
theorem It.down {tg e₁ e₂ e₃ : Expr} {x : Str} {px np pos : Pos} (ht : tg = .Name x px) (c : Callee G sc (Str.ofString "range") (.type "range")) {i : Int} (hi : i < 1000000) (hi0 : -1000000 < i)
    (a : Evs G n sc ρ [e₁, e₂, e₃] [.int i, .int 0, .int (-1)]) (hs : noStar [e₁, e₂, e₃] = true) : It G n sc ρ tg (.Call (.Name (Str.ofString "range") np) [e₁, e₂, e₃] [] pos) ((dn i.toNat).map D.int) false := by
  have := It.range3 (G := G) (n := n) (sc := sc) (ρ := ρ) (np := np) (pos := pos) ht c (i := i) (j := 0) (by omega) (by omega) (by omega) (by omega) a hs
  rw [Int.sub_zero] at this
  by_cases h : 0 ≤ i
  · have e : i = ((i.toNat : Nat) : Int) := by omega
    have r := rangeL_dn i.toNat
    rw [← e] at r
    rw [← r]; exact this
  · have e : i.toNat = 0 := by omega
    rw [e] at this ⊢; exact this
end
end M3
end
-- part C33
section
namespace M3
open PySem PySem.Calls PySem.Spec PyProof.Rows PySem.W PySem.Builtin PySem.Builtin.Str
section
variable {G : Gc} {n : Nat} {sc : Scope} {ρ : Rho} {A : Around} {E : Value → Shared → Prop}
/-- a call of a def, whatever way its arguments are told -/
theorem call_body {f : Addr} {fd : FuncData} {body : List Stmt} {ns : List Str} {ds : List D} {d : D} {ps : List Value} {kw : List (Str × Value)} {vs : List Value} {Z : Zm} {s : Shared} {Q : Value → Shared → Prop} (F : FnAt G f fd body)
    (hbind : BindsTo s fd ⟨ps, kw⟩ (ns.zip vs)) (hnd : ns.Nodup) (hlen : ns.length = ds.length)
    (hkind : (ns.all fun y => fd.scope.names.lookup y == some .local || fd.scope.names.lookup y == some .cell) = true)
    (h : Ex G n fd.scope (rho0 ns ds) body (.ret d)) (r : Room (n + 1) A) (z0 : G.Z0 Z) (zin : Zin Z s.heap) (hh : HoldsL Z ds vs) (hq : ∀ v Z' s', PStep Z s Z' s' → Holds Z' d v → Q v s') : wpAny (model G.prog G.w) A (call (.ref f) ps kw) Q E s := by
  have hl : vs.length = ds.length := hh.length
  have hmap : (ns.zip vs).map (·.1) = ns := by rw [List.map_fst_zip]; omega
  refine wpAny_call (enter F r.depth z0 zin (fun _ _ e => e) hbind (by rw [hmap]; exact hnd) ?_ (fun _ => none) (fun x sl e => rho0_at hh e) (fun _ _ => rfl) (fun _ _ _ e => nomatch e) (fun _ _ e => nomatch e) fun env s₁ hs hk he S => ?_)
  · rw [List.all_eq_true]
    intro p hp
    have : p.1 ∈ ns := by have := List.mem_map_of_mem (f := (·.1)) hp; rwa [hmap] at this
    exact List.all_eq_true.mp hkind _ this
  · refine h (A.deeper env) env s.heap Z Z s₁ _ _ r.call he S fun fl Z' s' hs' ho => ?_
    obtain ⟨v, rfl, hv, D⟩ := ho
    obtain ⟨h1, t1, rfl⟩ := hs
    obtain ⟨h2, t2, rfl⟩ := hs'
    exact hq v Z' _ ⟨⟨h2, t2, rfl⟩, D.keep, D.zg, D.zin, D.zng⟩ hv
/-- a def with one keyword -/
theorem Cvk.of {f : Addr} {fd : FuncData} {body : List Stmt} {ns : List Str} {ds : List D} {nm : Str} {kd d : D} (F : FnAt G f fd body)
    (hbind : ∀ vs kv, vs.length = ds.length → bindArgs fd ⟨vs, [(nm, kv)]⟩ = pure (ns.zip (vs ++ [kv]))) (hnd : ns.Nodup) (hlen : ns.length = (ds ++ [kd]).length)
    (hkind : (ns.all fun y => fd.scope.names.lookup y == some .local || fd.scope.names.lookup y == some .cell) = true)
    (h : Ex G n fd.scope (rho0 ns (ds ++ [kd])) body (.ret d)) : Cvk G (n + 1) (.ref f) ds nm kd d := by
  intro A Z s vs kv Q E r z0 zin hh hk hq
  exact call_body F (BindsTo.of_eq (hbind vs kv hh.length)) hnd hlen hkind h r z0 zin (hh.append (HoldsL.one hk)) hq
/-- a def with data told by its defaults -/
theorem Fn.ofD {f : Addr} {fd : FuncData} {body : List Stmt} {ns : List Str} {ds xs : List D} {us : List Value} {d : D} (F : FnAt G f fd body) (hx : ∀ Z, HoldsL Z xs us)
    (hbind : ∀ (s : Shared) vs, G.K.In s.heap → vs.length = ds.length → BindsTo s fd ⟨vs, []⟩ (ns.zip (vs ++ us))) (hnd : ns.Nodup) (hlen : ns.length = (ds ++ xs).length)
    (hkind : (ns.all fun y => fd.scope.names.lookup y == some .local || fd.scope.names.lookup y == some .cell) = true)
    (h : Ex G n fd.scope (rho0 ns (ds ++ xs)) body (.ret d)) : Fn G (n + 1) f ds d := by
  intro A Z s vs Q E r z0 zin hh hq
  exact call_body F (hbind s vs (z0.bs zin).k hh.length) hnd hlen hkind h r z0 zin (hh.append (hx Z)) hq
theorem Truth.none : Truth G n .none false := by
  intro A Z s v Q E r z0 zin hv h
  have e : v = .none := hv
  subst e
  exact PyProof.Rows.truthy_none (h Z _ (PStep.refl zin))
def notNone : D → Bool
  | .none => false
  | .addr _ => false
  | _ => true
theorem notNone_ne {d : D} (h : notNone d = true) {Z : Zm} {v : Value} (hv : Holds Z d v) : plainIs v .none = true ∧ v ≠ .none := by
  cases d with
  | none => cases h
  | bool => have := hv; cases this; exact ⟨rfl, by simp⟩
  | int => obtain ⟨t, rfl⟩ := hv; exact ⟨rfl, by simp⟩
  | str => obtain ⟨t, rfl⟩ := hv; exact ⟨rfl, by simp⟩
  | list => obtain ⟨a, vs, rfl, _⟩ := hv; exact ⟨rfl, by simp⟩
  | tup => obtain ⟨a, vs, rfl, _⟩ := hv; exact ⟨rfl, by simp⟩
  | inst => obtain ⟨a, vs, rfl, _⟩ := hv; exact ⟨rfl, by simp⟩
  | addr a => cases h
theorem Cmp.is_none : Cmp G n .Is .none .none true := by
  intro A Z s v w Q E r z0 zin hv hw h
  have e : v = .none := hv
  have e2 : w = .none := hw
  subst e e2
  exact wpAny_is_self rfl (h Z _ (PStep.refl zin))
theorem Cmp.is_some {d : D} (hd : notNone d = true) : Cmp G n .Is d .none false := by
  intro A Z s v w Q E r z0 zin hv hw h
  have e2 : w = .none := hw
  subst e2
  obtain ⟨h1, h2⟩ := notNone_ne hd hv
  exact wpAny_is_other h1 h2 (h Z _ (PStep.refl zin))
theorem Cmp.isNot_addr {a : Addr} : Cmp G n .IsNot (.addr a) .none true := by
  intro A Z s v w Q E r z0 zin hv hw h
  have e2 : w = .none := hw
  have e : v = .ref a := hv
  subst e e2
  exact wpAny_isNot_other rfl (by simp) (h Z _ (PStep.refl zin))
/-- type(x) is str -/
theorem Tr.typeIs {x : Expr} {np tp pos cp : Pos} {d : D} {T : String} {b : Bool} {op : CmpOp} (c : Callee G sc (Str.ofString "type") (.type "type")) (c2 : Callee G sc (Str.ofString T) (.type T)) (hx : Ev G n sc ρ x d) (hT : ∀ Z (s : Shared) v, G.Z0 Z → Zin Z s.heap → Holds Z d v → s.TypeIs v T) (hnb : (Value.type T == Value.type "builtin_function_or_method") = false)
    (hs : noStar [x] = true) (hse : ∀ env, starEach [x] env = (false, eval x env) :: starEach [] env) (hop : op = .Is ∧ b = true ∨ op = .IsNot ∧ b = false) (hm : behindInMarks op (.Name (Str.ofString T) tp) = false) (hp : plainIs (.type T) (.type T) = true) :
    Tr G n sc ρ (.Compare (.Call (.Name (Str.ofString "type") np) [x] [] cp) [op] [.Name (Str.ofString T) tp] pos) b := by
  intro A env g Z s Q E rm he S h
  refine wpAny_isTrue_Compare1 (wpAny_Call_NameR (c.eval S he (callWith_pos S rm he Kpr.type hs (Evs.cons hx Evs.nil hse) fun vs Z1 s1 st1 hv => ?_))) hm
  obtain ⟨v, rfl, hd⟩ := one hv
  have S1 := S.step st1
  refine call_type_of (hT Z1 s1 v S1.z0 S1.zin hd) hnb ?_
  refine c2.eval S1 he ?_
  rcases hop with ⟨rfl, rfl⟩ | ⟨rfl, rfl⟩
  · exact wpAny_is_self hp (wpAny_truthy_bool (h Z1 s1 st1))
  · exact wpAny_isNot_self hp (wpAny_truthy_bool (h Z1 s1 st1))
/-- the list that stands frozen at a known place -/
theorem Ev.asList {e : Expr} {a : Addr} {L : List D} (hX : ∀ Z, G.X Z → Holds Z (.list L) (.ref a)) (h : Ev G n sc ρ e (.addr a)) : Ev G n sc ρ e (.list L) := by
  intro A env g Z s Q E rm he S hq
  refine h A env g Z s Q E rm he S fun v Z1 s1 st1 hv => ?_
  have e : v = .ref a := hv
  subst e
  exact hq _ Z1 s1 st1 (hX _ ((S.step st1).z0).2)
/-- a loop that looks for the first item that f takes -/
theorem ForTo.find {α : Type} {tgs : List Str} {tg : Expr} {body : List Stmt} (f : α → Option D) (dd : α → D) : ∀ (l : List α), (∀ a ∈ l, ∃ ρ₁, Tg G sc tgs ρ tg (dd a) ρ₁ ∧ Ex G n sc ρ₁ body (match f a with | none => .nx ρ | some d => .ret d)) →
    ForTo G n sc tgs tg body (l.map dd) ρ (match l.findSome? f with | none => .nx ρ | some d => .ret d)
  | [], _ => rfl
  | a :: l, h => by
    obtain ⟨ρ₁, ht, hb⟩ := h a List.mem_cons_self
    have ih := ForTo.find f dd l fun b hb => h b (List.mem_cons_of_mem _ hb)
    refine ⟨ρ₁, ht, ?_⟩
    rw [List.findSome?_cons]
    cases hf : f a with
    | none =>
      rw [hf] at hb
      exact .inl ⟨ρ, hb, ih⟩
    | some d =>
      rw [hf] at hb
      exact .inr (.inr ⟨trivial, hb⟩)
/-- a character that lower() leaves alone -/
def lowOk (c : Nat) : Bool := decide (c < 127) && (decide (c < 65) || decide (90 < c))
theorem lowerOf_low : ∀ c : Fin 127, lowOk c.val = true → Unicode.lowerOf c.val = [c.val] := by decide +kernel
theorem lower_id {x : Str} (h : ∀ c ∈ x.cps.toList, lowOk c = true) : Txt.lower x = x := by
  obtain ⟨cps⟩ := x
  unfold Txt.lower placed
  congr 1
  have e : (cps.mapIdx fun i c => (Unicode.lowerAt cps i).toArray) = cps.map fun c => #[c] := by
    apply Array.ext
    · simp
    · intro i h1 h2
      have hi : i < cps.size := by simpa using h1
      have hc := h cps[i] (by simp)
      have hlt : cps[i] < 127 := by unfold lowOk at hc; simp at hc; omega
      have hl := lowerOf_low ⟨cps[i], hlt⟩ hc
      simp only [Array.getElem_mapIdx, Array.getElem_map]
      unfold Unicode.lowerAt
      rw [Array.getElem?_eq_getElem hi]
      have : (cps[i] == 0x3A3) = false := by simp; omega
      simp only [this, Bool.false_and, Bool.false_eq_true, if_false]
      rw [hl]
  rw [e]
  clear e h
  apply Array.ext'
  rw [Array.toList_flatten]
  simp only [Array.toList_map, List.map_map]
  induction cps.toList with
  | nil => rfl
  | cons a l ih => rw [List.map_cons, List.flatten_cons, ih]; rfl
theorem Cv.lower {x : Str} (h : ∀ c ∈ x.cps.toList, lowOk c = true) (hl : x.length ≤ 1000000) : Cv G n (.builtin "str.lower") [.str x] (.str x) := by
  intro A Z s vs Q E rm z0 zin hh hq
  obtain ⟨v, rfl, t, rfl⟩ := one hh
  refine SC.lower ?_ ?_
  · rw [lower_id h]
    simp only [tooLong, decide_eq_false_iff_not]
    have : (1000000 : Nat) ≤ sizeLine := by decide
    omega
  · rw [lower_id h]
    exact hq _ Z _ (PStep.tok zin _) ⟨_, rfl⟩
end
end M3
end
-- part T1
section
namespace M3
open PySem PySem.Sem
/-- no run gives a token back -/
theorem Runs.toks {M : Model} {Γ : Ctx} {p : Pos} {t : Sem Fin} {fs : List Frame} {s : Shared} {e : End} {s' : Shared} (r : Runs M Γ p t fs s e s') : s.toks ≤ s'.toks := by
  induction r <;> first
    | exact Nat.le_refl _
    | assumption
    | exact Nat.le_of_succ_le (by assumption)
    | exact Nat.le_trans (by assumption) (by assumption)
theorem Wakes.toks {M : Model} {Γ : Ctx} {p : Pos} {g : Nat} {r : Resume} {s : Shared} {res : GenResult} {s' : Shared} (h : Wakes M Γ p g r s res s') : s.toks ≤ s'.toks := by
  unfold Wakes at h
  split at h
  · exact h.elim
  · split at h
    · obtain ⟨e₁, s₁, h1, _, _, rfl⟩ := h; have q := Runs.toks h1; exact q
    · rw [h.2]; exact Nat.le_refl _
    · rw [h.2]; exact Nat.le_refl _
  · obtain ⟨e₁, s₁, h1, _, _, rfl⟩ := h; have q := Runs.toks h1; exact q
  · rw [h.2]; exact Nat.le_refl _
  · rw [h.2]; exact Nat.le_refl _
theorem wp_toks {α : Type} {M : Model} {Γ : Ctx} (t : Sem α) : ∀ {Q : α → Pos → Shared → Prop} {E : Value → Pos → Shared → Prop} {p : Pos} {s : Shared}, wp M Γ t Q E p s → wp M Γ t (fun a p' s' => s.toks ≤ s'.toks ∧ Q a p' s') (fun e p' s' => s.toks ≤ s'.toks ∧ E e p' s') p s := by
  induction t with
  | pure a => intro Q E p s h; exact ⟨Nat.le_refl _, h⟩
  | raise e => intro Q E p s h; exact ⟨Nat.le_refl _, h⟩
  | call c h g l k ih =>
    intro Q E p s h
    rw [wp_call] at h ⊢
    obtain ⟨r, s1, h1, h2⟩ := h
    have hr := Runs.toks h1
    exact ⟨r, s1, h1, wp_mono M Γ _ (fun _ _ _ q => ⟨Nat.le_trans hr q.1, q.2⟩) (fun _ _ _ q => ⟨Nat.le_trans hr q.1, q.2⟩) p s1 (ih r h2)⟩
  | resume g r l k ih =>
    intro Q E p s h
    rw [wp_resume] at h ⊢
    obtain ⟨res, s1, h1, h2⟩ := h
    have hr := Wakes.toks h1
    exact ⟨res, s1, h1, wp_mono M Γ _ (fun _ _ _ q => ⟨Nat.le_trans hr q.1, q.2⟩) (fun _ _ _ q => ⟨Nat.le_trans hr q.1, q.2⟩) p s1 (ih res h2)⟩
  | fresh k ih =>
    intro Q E p s h
    rw [wp_fresh] at h ⊢
    exact wp_mono M Γ _ (fun _ _ _ q => ⟨Nat.le_of_succ_le q.1, q.2⟩) (fun _ _ _ q => ⟨Nat.le_of_succ_le q.1, q.2⟩) p _ (ih _ h)
  | load a part k ih => intro Q E p s h; rw [wp_load] at h ⊢; obtain ⟨o, e, h⟩ := h; exact ⟨o, e, ih _ h⟩
  | update a part f k ih => intro Q E p s h; rw [wp_update] at h ⊢; exact ⟨h.1, ih _ h.2⟩
  | choose src n k ih => intro Q E p s h; rw [wp_choose] at h ⊢; exact ⟨h.1, ih _ h.2⟩
  | genState g k ih => intro Q E p s h; rw [wp_genState] at h ⊢; obtain ⟨o, e, h⟩ := h; exact ⟨o, e, ih _ h⟩
  | _ => first
    | (rename_i ih; intro Q E p s h; first | (simp only [wp_rule, wp_at, wp_loadIfAlive, wp_point, wp_alloc, wp_ask, wp_os, wp_handled, wp_newGen, wp_stack, wp_thread] at h ⊢; exact ih _ h) | exact h.elim)
    | (intro Q E p s h; exact h.elim)
theorem wpAny_toks {α : Type} {M : Model} {A : Around} {t : Sem α} {Q : α → Shared → Prop} {E : Value → Shared → Prop} {s : Shared} (h : wpAny M A t (fun a s' => s.toks ≤ s'.toks → Q a s') E s) : wpAny M A t Q E s := fun Γ p hΓ =>
  wp_mono M Γ t (fun _ _ _ q => q.2 q.1) (fun _ _ _ q => q.2) p s (wp_toks t (h Γ p hΓ))
end M3
end
-- part T2
section
namespace M3
open PySem PySem.Calls PySem.Spec PyProof.Rows PySem.W
/-- what else is known within a loop: it outlives steps that leave Y alone and give no token back -/
structure Xtra (Y : Addr → Prop) (I : Zm → Shared → Prop) : Prop where
  up : ∀ U Z s Z' s', I Z s → UStep U Z s Z' s' → (∀ b o, Y b → s.heap.get? b = some o → ¬ U b) → s.toks ≤ s'.toks → I Z' s'
  odd : ∀ Z s b o, I Z s → Y b → s.heap.get? b = some o → ¬ Odd o
section
variable {G : Gc} {A : Around}
theorem loop_runX {e : Expr} {depth : Nat} {tg : Expr} {pt : PTr} (hun : Unroll G e depth tg pt) {env : Env} {it acc : Value} {R : Result → Shared → Prop} {W F : Addr → Prop} (J : List D → Zm → Shared → Prop)
    (hJU : ∀ ds U Z s Z' s', J ds Z s → UStep U Z s Z' s' → (∀ b o, U b → s.heap.get? b = some o → Odd o) → (∀ b, U b → F b) → s.toks ≤ s'.toks → J ds Z' s')
    (hW : ∀ ds Z s b o, J ds Z s → W b → s.heap.get? b = some o → ¬ Odd o)
    (step : ∀ d ds Z s v K E, J (d :: ds) Z s → Holds Z d v → (∀ Z' s', UStep W Z s Z' s' → J ds Z' s' → K s') → pt A env acc v K E s)
    (fin : ∀ Z s, J [] Z s → R (.ok .next) s) :
    ∀ (ds : List D) (Z : Zm) (U : Addr → Prop) (h : Heap), Feeds G A tg it ds Z U (fun _ => False) h → ∀ (s : Shared) (Z₁ : Zm), Compat U (fun _ => False) h Z s Z₁ → (∀ b, U b → ∃ o, s.heap.get? b = some o ∧ Odd o) → (∀ b, U b → F b) → J ds Z₁ s →
      codeAny (model G.prog G.w) A (.compLoop e depth it acc env) R s
  | [], Z, U, h, fd, s, Z₁, C, hu, hf, hj => by
    refine hun A env it acc R s fun E => ?_
    refine wpAny_toks (wpAny_mono (fd s Z₁ (fun r s' => r = none ∧ (s.toks ≤ s'.toks → R (.ok .next) s')) E C fun s' us => ⟨rfl, fun ht => ?_⟩) (fun r s' h hle => ?_) fun _ _ x => x)
    · exact fin _ _ (hJU _ _ _ _ _ _ hj us (fun b o ub e => by obtain ⟨o', e', q⟩ := hu b ub; rw [e] at e'; cases e'; exact q) hf ht)
    · obtain ⟨rfl, h⟩ := h
      exact h hle
  | d :: ds, Z, U, h, fd, s, Z₁, C, hu, hf, hj => by
    refine hun A env it acc R s fun E => ?_
    have key := fd s Z₁ (fun v s₂ => s.toks ≤ s₂.toks → pt A env acc v (fun s₃ => codeAny (model G.prog G.w) A (.compLoop e depth it acc env) R s₃) E s₂) E C (fun v Z₂ U₂ s₂ us hv fd₂ hsub hodd huz ht => ?_)
    · refine wpAny_toks (wpAny_mono key (fun r s₁ hr hle => ?_) fun _ _ x => x)
      cases r with
      | none => exact hr.elim
      | some v => exact wpAny_toks (wpAny_mono hr (fun _ s₂ h2 hle2 => h2 (Nat.le_trans hle hle2)) fun _ _ x => x)
    · have hodd' : ∀ b o, U b → s.heap.get? b = some o → Odd o := fun b o ub e => by obtain ⟨o', e', q⟩ := hu b ub; rw [e] at e'; cases e'; exact q
      have hj₂ := hJU _ _ _ _ _ _ hj us hodd' hf ht
      refine step d ds Z₂ s₂ v _ E hj₂ hv fun Z₃ s₃ ws hj₃ => ?_
      have nW : ∀ b o, U₂ b → s₂.heap.get? b = some o → ¬ W b := fun b o ub e wb => by
        obtain ⟨o', e', q⟩ := hodd b ub
        rw [e] at e'; cases e'
        exact hW _ _ _ b o hj₂ wb e q
      refine loop_runX hun J hJU hW step fin ds Z₂ U₂ s₂.heap fd₂ s₃ Z₃ ⟨fun b o ub e => ws.keep b o (nW b o ub e) e, fun b o bb e => bb.elim, ws.z, ws.zin, fun b ub => ?_⟩ (fun b ub => ?_) (fun b ub => hf b (hsub b ub)) hj₃
      · obtain ⟨o, e, _⟩ := hodd b ub
        exact ws.zn b o (nW b o ub e) e (huz b ub)
      · obtain ⟨o, e, q⟩ := hodd b ub
        exact ⟨o, ws.keep b o (nW b o ub e) e, q⟩
end
section
variable (G : Gc)
/-- one turn, that may turn the objects Y too: from the item's data to the data that the list gains -/
def TurnX (Y : Addr → Prop) (I J : Zm → Shared → Prop) (n : Nat) (sc : Scope) (tgs : List Str) (ρ : Rho) (pt : PTr) (d : D) (outs : List D) : Prop :=
  ∀ (A : Around) (env : Env) (D : Addr) (Z : Zm) (s : Shared) (acc : List Value) (accd : List M3.D) (v : Value) (K : Shared → Prop) (E : Value → Shared → Prop), Room n A → env.scope = sc → Sees G env (onlyAt D) Z ρ s.heap → I Z s → ¬ Y D → Holds Z d v →
    PL s.heap D acc.toArray → Z D = none → HoldsL Z accd acc → accd.length + outs.length ≤ 100000 →
    (∀ Z' s' acc', UStep (fun b => Wr env tgs D b ∨ Y b) Z s Z' s' → Sees G env (onlyAt D) Z' ρ s'.heap → J Z' s' → PL s'.heap D acc'.toArray → Z' D = none → HoldsL Z' (accd ++ outs) acc' → K s') → pt A env (.ref D) v K E s
def TurnsX {ι : Type} (Y : Addr → Prop) (I : ι → Zm → Shared → Prop) (n : Nat) (sc : Scope) (tgs : List Str) (ρ : Rho) (pt : PTr) : List D → ι → List D → ι → Prop
  | [], i, outs, j => outs = [] ∧ i = j
  | d :: ds, i, outs, j => ∃ o os i', outs = o ++ os ∧ TurnX G Y (I i) (I i') n sc tgs ρ pt d o ∧ TurnsX Y I n sc tgs ρ pt ds i' os j
end
section
variable {G : Gc} {n : Nat} {sc : Scope} {ρ : Rho} {tgs : List Str} {ι : Type} {Y : Addr → Prop} {I : ι → Zm → Shared → Prop}
theorem loop_turnsX {A : Around} {e : Expr} {depth : Nat} {tg : Expr} {pt : PTr} (hun : Unroll G e depth tg pt) (hX : ∀ i, Xtra Y (I i)) {env : Env} {D : Addr} {it : Value} {R : Result → Shared → Prop} {total : List M3.D} {U : Addr → Prop} {Zb Z Z₁ : Zm} {sb s : Shared} {h : Heap} {ds : List M3.D} {i j : ι}
    (rm : Room n A) (he : env.scope = sc) (hlen : total.length ≤ 100000) (hYD : ¬ Y D)
    (hXW : ∀ b, Wr env tgs D b → sb.heap.get? b = none) (hXU : ∀ b, U b → sb.heap.get? b = none)
    (fd : Feeds G A tg it ds Z U (fun _ => False) h) (C : Compat U (fun _ => False) h Z s Z₁) (hu : ∀ b, U b → ∃ o, s.heap.get? b = some o ∧ Odd o)
    (u0 : UStep Y Zb sb Z₁ s) (S0 : Sees G env (onlyAt D) Z₁ ρ s.heap) (i0 : I i Z₁ s) (ts : TurnsX G Y I n sc tgs ρ pt ds i total j) (hl0 : PL s.heap D ([] : List Value).toArray) (hz0 : Z₁ D = none)
    (fin : ∀ Z' s', UStep Y Zb sb Z' s' → Sees G env (onlyAt D) Z' ρ s'.heap → I j Z' s' → (∃ acc, PL s'.heap D acc.toArray ∧ Z' D = none ∧ HoldsL Z' total acc) → R (.ok .next) s') :
    codeAny (model G.prog G.w) A (.compLoop e depth it (.ref D) env) R s := by
  let J : List M3.D → Zm → Shared → Prop := fun ds Z s => UStep Y Zb sb Z s ∧ Sees G env (onlyAt D) Z ρ s.heap ∧ ∃ i acc accd outs, I i Z s ∧ TurnsX G Y I n sc tgs ρ pt ds i outs j ∧ accd ++ outs = total ∧ PL s.heap D acc.toArray ∧ Z D = none ∧ HoldsL Z accd acc
  refine loop_runX hun (W := fun b => Wr env tgs D b ∨ Y b) (F := U) J ?_ ?_ ?_ ?_ ds Z U h fd s Z₁ C hu (fun _ q => q) ⟨u0, S0, i, [], [], total, i0, ts, rfl, hl0, hz0, rfl⟩
  · rintro ds U' Z s Z' s' ⟨u, S, i, acc, accd, outs, hi, ht, htot, hl, hz, hh⟩ us hodd hF htk
    have nU : ∀ o, s.heap.get? D = some o → ¬ U' D := fun o e q => IsList.notOdd hl e (hodd D o q e)
    refine ⟨u.trans us fun b hb => .inr (hXU b (hF b hb)), S.iter us hodd, i, acc, accd, outs, (hX i).up _ _ _ _ _ hi us (fun b o yb e ub => (hX i).odd _ _ _ _ hi yb e (hodd b o ub e)) htk, ht, htot, ?_, ?_, HoldsL.mono us.z hh⟩
    · obtain ⟨o, e, r⟩ := hl; exact ⟨o, us.keep D o (nU o e) e, r⟩
    · obtain ⟨o, e⟩ := IsList.get hl; exact us.zn D o (nU o e) e hz
  · rintro ds Z s b o ⟨u, S, i, acc, accd, outs, hi, ht, htot, hl, hz, hh⟩ wb e
    rcases wb with wb | yb
    · exact Wr.notOdd S hl wb e
    · exact (hX i).odd _ _ _ _ hi yb e
  · rintro d ds Z s v K E ⟨u, S, i, acc, accd, outs, hi, ht, htot, hl, hz, hh⟩ hv hK
    obtain ⟨o, os, i', rfl, t, ts⟩ := ht
    refine t A env D Z s acc accd v K E rm he S hi hYD hv hl hz hh ?_ fun Z' s' acc' us S' hi' hl' hz' hh' => ?_
    · have := congrArg List.length htot
      simp at this; omega
    · exact hK Z' s' us ⟨u.trans us fun b hb => hb.elim (fun hb => .inr (hXW b hb)) fun hb => .inl hb, S', i', acc', accd ++ o, os, hi', ts, by rw [List.append_assoc]; exact htot, hl', hz', hh'⟩
  · rintro Z s ⟨u, S, i, acc, accd, outs, hi, ht, htot, hl, hz, hh⟩
    obtain ⟨rfl, rfl⟩ := ht
    rw [List.append_nil] at htot
    subst htot
    exact fin Z s u S hi ⟨acc, hl, hz, hh⟩
theorem comp_coreX {elt tg iter : Expr} {ifs : List Expr} {rest : List Comprehension} {scope : Scope} {pos p : Pos} {pt : PTr} {ds outs : List D} {use : Option (Value → Sem Unit)} {A : Around} {E : Value → Shared → Prop} {env : Env} {g : Heap} {Z : Zm} {s : Shared} {Q : Value → Shared → Prop} {i j : ι}
    (ok : CompIn sc scope tgs) (hun : Unroll G (.ListComp elt (⟨tg, iter, ifs, 0⟩ :: rest) scope pos) 0 tg pt) (hX : ∀ i, Xtra Y (I i)) (hs : ∀ x, foldedSetIterable iter env x = pure x) (hit : It G n sc ρ tg iter ds false)
    (ts : TurnsX G Y I n (relab scope sc) tgs (captOf scope ρ) pt ds i outs j) (hlen : outs.length ≤ 100000)
    (rm : Room n A) (he : env.scope = sc) (S : Sees G env g Z ρ s.heap) (hi : I i Z s) (hY : ∀ b, Y b → ∃ o, s.heap.get? b = some o)
    (fin : ∀ a vs C m Z' s', UStep Y Z s Z' s' → I j Z' s' → s.heap.get? a = none → Z' a = none → PL s'.heap a vs.toArray → HoldsL Z' outs vs → s.heap.get? C = none → s'.heap.Ns C m → Z' C = none →
      compPost (model G.prog G.w) A E use Q (.ref a) C (.ok .next) s') :
    wpAny (model G.prog G.w) A (comprehension (.ListComp elt (⟨tg, iter, ifs, 0⟩ :: rest) scope pos) scope env p (newList []) false (eval iter env) use) Q E s := by
  have hclos : closureFor scope env = pure (clOf env.cells scope.names []) := closureFor_eq fun x hx => by
    have hk : env.kindOf x = some .cell := by unfold Env.kindOf; rw [he]; exact ok.free x hx
    obtain ⟨c, v, e, _⟩ := S.cells x (.inl hk)
    rw [e]; rfl
  refine wpAny_comprehension_free (g := ⟨tg, iter, ifs, 0⟩) (gs := rest) rfl hs hclos ok.kind (fun x hx hl => lookup_nodup ok.nd (by obtain ⟨a, b⟩ := x; dsimp only at hl; subst hl; exact hx)) ?_
  refine wpAny_toks (wpAny_mono (hit A env g Z s (fun it s' => s.toks ≤ s'.toks → _) E rm he S fun it Z2 s2 U B st2 fd hU hB hB' hiter htk => ?_) (fun x s₁ h₁ hle => wpAny_toks (wpAny_mono h₁ (fun it s' h₂ hle' => h₂ (Nat.le_trans hle hle')) fun _ _ q => q)) fun _ _ q => q)
  refine wpAny_newList ?_ (by decide)
  refine newFunctionEnv_comp fun cenv hcenv => ?_
  have hcl : cenv.locals = s2.heap.objs.size + 1 := by
    have := congrArg Env.locals hcenv
    simpa [compEnvOf] using this
  rw [hcenv]
  dsimp only
  have hBF : B = fun _ => False := funext fun b => propext ⟨fun h => hB rfl b h, fun h => h.elim⟩
  subst hBF
  let h3 : Heap := s2.heap.push { cls := .type "list", data := .seq ([] : List Value).toArray }
  have e3 : h3.objs.size = s2.heap.objs.size + 1 := Heap.size_push ..
  let s4 : Shared := { s2 with heap := pushCells (h3.push { cls := .type "dict", data := .dict #[] }) scope.names }
  have k23 : ∀ b o, s2.heap.get? b = some o → h3.get? b = some o := fun b o e => Heap.get?_push_of_some _ e
  have k34 : ∀ b o, h3.get? b = some o → s4.heap.get? b = some o := fun b o e => pushCells_keeps _ _ b o (Heap.get?_push_of_some _ e)
  have st4 : PStep Z s Z2 s4 := st2.trans (PStep.same (h' := s4.heap) (tk := s2.toks) st2.zin fun b o e => k34 b o (k23 b o e))
  have z2 : ∀ b, s2.heap.objs.size ≤ b → Z2 b = none := fun b hb => st2.zin.none (le_none hb)
  have f2 : ∀ b, s2.heap.objs.size ≤ b → s.heap.get? b = none := fun b hb => none_of_keep st2.keep (le_none hb)
  have hD0 : s.heap.get? s2.heap.objs.size = none := f2 _ (Nat.le_refl _)
  have hC0 : s.heap.get? h3.objs.size = none := f2 _ (by rw [e3]; exact Nat.le_succ _)
  have hL3 : PL h3 s2.heap.objs.size ([] : List Value).toArray := ⟨_, Heap.get?_push_size _ rfl, ⟨rfl, rfl, rfl⟩, _, rfl⟩
  have hL4 : PL s4.heap s2.heap.objs.size ([] : List Value).toArray := IsList.keeps hL3 k34
  obtain ⟨S4, hW, hns⟩ := S.comp he ok st4 (h₃ := h3) (C := h3.objs.size) (D := s2.heap.objs.size) rfl (fun b o e => k23 b o (st2.keep b o e)) (fun b hb => z2 b (Nat.le_trans (by rw [e3]; exact Nat.le_succ _) hb)) rfl hD0
  have uz : ∀ b, U b → Z2 b = none := fun b ub => (hU b ub).1.2
  have C4 : Compat U (fun _ => False) s2.heap Z2 s4 Z2 := ⟨fun b o _ e => k34 b o (k23 b o e), fun b o _ e => k34 b o (k23 b o e), Zle.refl _, st4.zin, uz⟩
  have hYD : ¬ Y s2.heap.objs.size := fun y => by obtain ⟨o, e⟩ := hY _ y; rw [hD0] at e; cases e
  have lp : codeAny (model G.prog G.w) A (.compLoop (.ListComp elt (⟨tg, iter, ifs, 0⟩ :: rest) scope pos) 0 it (.ref s2.heap.objs.size) (compEnvOf scope env (clOf env.cells scope.names []) h3.objs.size)) (compPost (model G.prog G.w) A E use Q (.ref s2.heap.objs.size) cenv.locals) s4 := by
    refine loop_turnsX hun hX (Zb := Z) (sb := s) (total := outs) (n := n) (sc := relab scope sc) (tgs := tgs) (ρ := captOf scope ρ) (U := U) (i := i) (j := j) rm ?_ hlen hYD (fun b hb => ?_) (fun b ub => (hU b ub).1.1) fd C4 (fun b ub => ?_) st4.u S4 ((hX i).up _ _ _ _ _ hi (st4.u (X := fun _ => False)) (fun _ _ _ _ q => q) htk) ts hL4 (z2 _ (Nat.le_refl _)) ?_
    · show relabel scope env = _
      rw [relab_eq, he]
    · rcases hb with hb | rfl
      · exact hW b hb
      · exact hD0
    · obtain ⟨o, e, q⟩ := (hU b ub).2
      exact ⟨o, k34 b o (k23 b o e), q⟩
    · rintro Z5 s5 u5 S5 i5 ⟨acc, hl5, hz5, hh5⟩
      obtain ⟨m5, hm5⟩ := S5.ns
      rw [hcl, ← e3]
      exact fin _ acc h3.objs.size m5 Z5 s5 u5 i5 hD0 hz5 hl5 hh5 hC0 hm5 S5.nz
  exact codeAny_compStart_list lp (hiter s4 Z2 _ _ C4 lp)
end
section
variable {G : Gc} {n : Nat} {sc : Scope} {ρ : Rho} {tgs : List Str}
/-- a new list, where a token has been told already -/
def EvLT (G : Gc) (n : Nat) (sc : Scope) (ρ : Rho) (e : Expr) (l : List D) : Prop :=
  ∀ (A : Around) (env : Env) (g : Heap) (Z : Zm) (s : Shared) (Q : Value → Shared → Prop) (E : Value → Shared → Prop), Room n A → env.scope = sc → Sees G env g Z ρ s.heap → 0 < s.toks →
    (∀ a vs Z' s', PStep Z s Z' s' → s.heap.get? a = none → Z' a = none → PL s'.heap a vs.toArray → HoldsL Z' l vs → Q (.ref a) s') → wpAny (model G.prog G.w) A (eval e env) Q E s
/-- a value, where a token has been told already -/
def EvT (G : Gc) (n : Nat) (sc : Scope) (ρ : Rho) (e : Expr) (d : D) : Prop :=
  ∀ (A : Around) (env : Env) (g : Heap) (Z : Zm) (s : Shared) (Q : Value → Shared → Prop) (E : Value → Shared → Prop), Room n A → env.scope = sc → Sees G env g Z ρ s.heap → 0 < s.toks →
    (∀ v Z' s', PStep Z s Z' s' → Holds Z' d v → Q v s') → wpAny (model G.prog G.w) A (eval e env) Q E s
def IT : Unit → Zm → Shared → Prop := fun _ _ s => 0 < s.toks
theorem IT_x : ∀ i, Xtra (fun _ => False) (IT i) := fun _ => ⟨fun _ _ _ _ _ h _ _ ht => Nat.lt_of_lt_of_le h ht, fun _ _ _ _ _ h => h.elim⟩
theorem Turn.t0T {tg elt : Expr} {ρ' : Rho} {d e : D} (t : Tg G sc tgs ρ tg d ρ') (hsub : ∀ x sl, ρ.lookup x = some sl → ρ'.lookup x = some sl) (x : EvT G n sc ρ' elt e) : TurnX G (fun _ => False) (IT ()) (IT ()) n sc tgs ρ (pt0 G tg elt) d [e] := by
  intro A env D Z s acc accd v K E rm he S hi hYD hv hl hz hh hsz hK
  have hi' : 0 < s.toks := hi
  refine wpAny_toks (t A env (onlyAt D) Z s v _ E rm.hh he S hv fun s1 u1 S1 ht1 => ?_)
  have hl1 : PL s1.heap D acc.toArray := by obtain ⟨o, e, r⟩ := id hl; exact ⟨o, u1.keep D o (fun q => Wt.list S q hl) e, r⟩
  refine wpAny_toks (x A env (onlyAt D) Z s1 _ E rm he S1 (Nat.lt_of_lt_of_le hi' ht1) fun y Z2 s2 st2 hy ht2 => ?_)
  obtain ⟨oD, eD⟩ := IsList.get hl1
  have hz2 := st2.zn D oD eD hz
  refine wpAny_toks (wpAny_mono (Sees.push (K := fun s' => s2.toks ≤ s'.toks → K s') (S1.step st2) (IsList.keeps hl1 st2.keep) hz2 (HoldsL.mono st2.z hh) hy (by simp at hsz; omega) fun s3 acc' u3 S3 hl3 hh3 ht3 => ?_) (fun _ _ q hle => q hle) fun _ _ q => q)
  refine hK Z2 s3 acc' ?_ (S3.weak hsub) (show 0 < s3.toks by omega) hl3 hz2 hh3
  exact (((u1.mono (Y := Wr env tgs D) fun b h => .inl h).trans (st2.u (X := fun _ => False)) (fun b h => h.elim)).trans u3 fun b h => .inl (.inr h)).mono fun b h => .inl h
theorem TurnsX.one {pt} {α : Type} {e : α → D} {f : α → D} : ∀ (l : List α), (∀ a ∈ l, TurnX G (fun _ => False) (IT ()) (IT ()) n sc tgs ρ pt (e a) [f a]) → TurnsX G (fun _ => False) IT n sc tgs ρ pt (l.map e) () (l.map f) ()
  | [], _ => ⟨rfl, rfl⟩
  | a :: l, h => ⟨[f a], l.map f, (), rfl, h a List.mem_cons_self, TurnsX.one l fun b hb => h b (List.mem_cons_of_mem _ hb)⟩
theorem EvLT.comp {elt tg iter : Expr} {ifs : List Expr} {rest : List Comprehension} {scope : Scope} {pos : Pos} {pt : PTr} {ds outs : List D}
    (ok : compOk sc scope tgs = true) (hun : Unroll G (.ListComp elt (⟨tg, iter, ifs, 0⟩ :: rest) scope pos) 0 tg pt) (hs : ∀ env x, foldedSetIterable iter env x = pure x) (hit : It G n sc ρ tg iter ds false)
    (ts : TurnsX G (fun _ => False) IT n (relab scope sc) tgs (captOf scope ρ) pt ds () outs ()) (hlen : outs.length ≤ 100000) : EvLT G n sc ρ (.ListComp elt (⟨tg, iter, ifs, 0⟩ :: rest) scope pos) outs := by
  intro A env g Z s Q E rm he S htk h
  rw [eval_ListComp]
  refine comp_coreX (p := firstIterPos (⟨tg, iter, ifs, 0⟩ :: rest) pos) (compOk.at_ ok) hun IT_x (hs env) hit ts hlen rm he S htk (fun _ h => h.elim) fun a vs C m Z' s' st0 _ hn hz hl hh hC hm hzC => ?_
  have st := st0.p fun b h => h.elim
  refine ⟨m, hm, fun h' hs' => ?_⟩
  have haC : a ≠ C := Ne.symm (Ns.ne_list hm hl)
  have hl' : PL h' a vs.toArray := by obtain ⟨o, e, r⟩ := hl; exact ⟨o, (hs'.2 a haC).trans e, r⟩
  refine h a vs Z' _ ?_ hn hz hl' hh
  obtain ⟨h1, t1, rfl⟩ := st.st
  refine ⟨⟨h', t1, rfl⟩, fun b o e => ?_, st.z, fun b o e => ?_, st.zn⟩
  · exact (hs'.2 b fun q => by subst q; rw [hC] at e; cases e).trans (st.keep b o e)
  · exact (hs'.2 b fun q => by subst q; rw [hzC] at e; cases e).trans (st.zin b o e)
end
end M3
end
-- part T3
section
set_option maxRecDepth 100000
namespace M3
open PySem PySem.Calls PySem.Spec PyProof.Rows PySem.W
section
variable {G : Gc} {n : Nat} {sc : Scope} {ρ : Rho} {tgs : List Str}
theorem Ev.t {e : Expr} {d : D} (h : Ev G n sc ρ e d) : EvT G n sc ρ e d := fun A env g Z s Q E rm he S _ hq => h A env g Z s Q E rm he S hq
theorem EvT.of {e : Expr} {d d' : D} (h : EvT G n sc ρ e d) (hb : d = d') : EvT G n sc ρ e d' := hb ▸ h
theorem EvT.bin {l r : Expr} {op : Operator} {pos : Pos} {a b d : D} (x : EvT G n sc ρ l a) (y : Ev G n sc ρ r b) (o : Op2 G n op a b d) : EvT G n sc ρ (.BinOp l op r pos) d := by
  intro A env g Z s Q E rm he S ht h
  refine wpAny_BinOp (x A env g Z s _ E rm he S ht fun v Z1 s1 st1 hv => ?_)
  refine y A env g Z1 s1 _ E rm he (S.step st1) fun w Z2 s2 st2 hw => ?_
  refine o A Z2 s2 v w _ E rm ((S.step st1).step st2).z0 st2.zin (Holds.mono st2.z hv) hw fun r Z3 s3 st3 hr => ?_
  exact h r Z3 s3 ((st1.trans st2).trans st3) hr
theorem EvT.replace {o : Expr} {x y z : Str} {k1 k2 : Nat} {p1 p2 apos pos : Pos} (sh : MethShape o (Str.ofString "replace") apos [.Constant (.str y) k1 p1, .Constant (.str z) k2 p2] pos) (ho : Ev G n sc ρ o (.str x)) (hyz : (y == z) = false) (hb : x.length + (x.length + 1) * z.length ≤ 16777216) :
    EvT G n sc ρ (.Call (.Attribute o (Str.ofString "replace") apos) [.Constant (.str y) k1 p1, .Constant (.str z) k2 p2] [] pos) (.str (Txt.replace x y z)) := by
  intro A env g Z s Q E rm he S ht h
  obtain ⟨pl, e⟩ := sh env
  refine methodCall_KW (pl := pl) (wpAny_toks (ho A env g Z s _ E rm he S fun v Z1 s1 st1 hv hle => ?_)) e
  refine (Mt.str (P := fun f fs => f = .builtin "str.replace" ∧ fs = [.str x]) PySem.F.plainAttrs_str PySem.F.slot_str_replace PySem.F.type_str_replace ⟨rfl, rfl⟩ : Mt G n _ (.str x) _) A Z1 s1 v pl _ E rm (S.step st1).z0 st1.zin hv fun f fs fds hk hP hf => ?_
  obtain ⟨rfl, rfl⟩ := hP
  obtain ⟨v', rfl, t, rfl⟩ := one hf
  have hp := back_plain (pos := pos) (star_plain (es := [.Constant (.str y) k1 p1, .Constant (.str z) k2 p2]) rfl env)
  refine callWith_of (P := fun h => G.Bs h) (by rw [hp]; rfl) Kpr.builtin (evalArgs_any hp ?_)
  rw [show starEach [.Constant (.str y) k1 p1, .Constant (.str z) k2 p2] env = (false, eval (.Constant (.str y) k1 p1) env) :: (false, eval (.Constant (.str z) k2 p2) env) :: [] from rfl]
  refine spliced_cons (wpAny_Constant_str (k := k1) (pos := p1) ?_)
  refine spliced_cons (wpAny_Constant_str (k := k2) (pos := p2) ?_)
  refine spliced_none (env := env) ?_
  refine ⟨(S.step st1).z0.bs st1.zin, ?_⟩
  exact SC.replace (show s1.toks ≠ 0 by omega) (by show s1.toks + 1 ≠ 0; omega) (by show s1.toks ≠ s1.toks + 1; omega) hyz hb fun t' k => h _ Z1 _ (st1.trans (PStep.tok st1.zin k)) ⟨t', rfl⟩
/-- y.join([...]): the text y tells a token ahead -/
theorem Ev.joinT {y : Str} {l : List Str} {e : Expr} {k : Nat} {cp apos pos : Pos} (sh : MethShape (.Constant (.str y) k cp) (Str.ofString "join") apos [e] pos) (a : EvLT G n sc ρ e (dS l)) (hs : noStar [e] = true) (hse : ∀ env, starEach [e] env = (false, eval e env) :: starEach [] env)
    (hok : (l.map (·.length)).sum + l.length * y.length ≤ 16777216) : Ev G n sc ρ (.Call (.Attribute (.Constant (.str y) k cp) (Str.ofString "join") apos) [e] [] pos) (.str (Txt.join y l)) := by
  intro A env g Z s Q E rm he S h
  obtain ⟨pl, e'⟩ := sh env
  have st1 : PStep Z s Z { s with toks := s.toks + 1 } := PStep.tok S.zin _
  have key : ∀ v s1, PStep Z s Z s1 → 0 < s1.toks → Holds Z (.str y) v → wpAny (model G.prog G.w) A (getMethod v (Str.ofString "join") pl) (fun r s2 => wpAny (model G.prog G.w) A (callWith pos r.1 r.2 (backTo pos (starEach [e] env)) (backToKw pos (keywordEach [] env))) Q E s2) E s1 := fun v s1 st1 ht1 hv => ?_
  · refine methodCall_KW (pl := pl) (wpAny_mono (wpAny_Constant_str (Q := fun v s' => PStep Z s Z s' ∧ 0 < s'.toks ∧ Holds Z (.str y) v) ⟨st1, Nat.succ_pos _, _, rfl⟩) (fun v s1 h1 => key v s1 h1.1 h1.2.1 h1.2.2) fun _ _ q => q) e'
  refine (Mt.str (P := fun f fs => f = .builtin "str.join" ∧ fs = [.str y]) PySem.F.plainAttrs_str PySem.F.slot_str_join PySem.F.type_str_join ⟨rfl, rfl⟩ : Mt G n _ (.str y) _) A Z s1 v pl _ E rm (S.step st1).z0 st1.zin hv fun f fs fds hk hP hf => ?_
  obtain ⟨rfl, rfl⟩ := hP
  obtain ⟨v', rfl, t, rfl⟩ := one hf
  have hp := back_plain (pos := pos) (star_plain [e] hs env)
  refine callWith_of (P := fun h => G.Bs h) (by rw [hp]; rfl) Kpr.builtin (evalArgs_any hp ?_)
  rw [hse]
  refine spliced_cons (a A env g Z _ _ E rm he (S.step st1) ht1 fun ad vs Z2 s2 st2 hn hz hl hh => ?_)
  refine spliced_none (env := env) ?_
  refine ⟨((S.step st1).step st2).z0.bs st2.zin, ?_⟩
  obtain ⟨o, ho, hc, kk, hd⟩ := id hl
  exact join_list hl.list (by simpa using hh.strs) hok fun t' k => h _ _ _ ((st1.trans st2).trans (PStep.tok st2.zin k)) ⟨t', rfl⟩
end
end M3
end
-- part T4
section
set_option maxRecDepth 100000
namespace M3
open PySem PySem.Calls PySem.Spec PyProof.Rows PySem.W
section
variable {G : Gc} {n : Nat} {sc : Scope} {ρ : Rho} {A : Around} {E : Value → Shared → Prop}
/-- storing an object of the frame's own whose list was made in a pure step -/
theorem SeesF.storeNew {env g Zg Z₀ Z} {s₀ s : Shared} {x : Str} {a : Addr} {v : Value} {sl : Slot} {Q : Unit → Shared → Prop} (S₀ : SeesF G env g Zg Z₀ ρ s₀.heap) (st : PStep Z₀ s₀ Z s)
    (hx : env.kindOf x = some .local ∨ env.kindOf x = some .cell) (hn : s₀.heap.get? a = none) (hsl : SlotH Z s.heap sl v (some a))
    (h : ∀ h' tk, SeesF G env g Zg Z (ρ.set x sl) h' → (∃ a, Heap.SameBut a s.heap h' ∧ (a = env.locals ∨ (env.kindOf x = some .cell ∧ env.cells.lookup x = some a))) → Q () { s with heap := h', toks := tk }) : wpAny (model G.prog G.w) A (storeName env x v) Q E s := by
  obtain ⟨pl₀, V₀⟩ := S₀.sees.vars
  -- the places of the names stay what they were: they are told by the slots
  refine (S₀.step st).store (o := some a) (sl := sl) hx hsl ?_ ?_ h
  · intro pl V y b hy e1 e2
    cases e2
    cases q : ρ.lookup y with
    | none => rw [V.out y q] at e1; cases e1
    | some t =>
      obtain ⟨w, hw, hs⟩ := V.at_ y t q
      obtain ⟨w₀, hw₀, hs₀⟩ := V₀.at_ y t q
      have same : w₀ = w := by
        have hw₁ := hw₀.keeps st.keep
        rcases hw₁ with ⟨k, m, hm, e⟩ | ⟨k, c, hc, e⟩ <;> rcases hw with ⟨k', m', hm', e'⟩ | ⟨k', c', hc', e'⟩
        · rw [Ns.unique hm hm'] at e; rw [e] at e'; exact Option.some.inj e'
        · rw [k] at k'; rcases k' with k' | k' <;> cases k'
        · rw [k'] at k; rcases k with k | k <;> cases k
        · rw [hc] at hc'; cases hc'
          have := IsCell.unique e e'
          exact Option.some.inj (Option.some.inj this ▸ rfl)
      subst same
      rw [e1] at hs
      cases t with
      | fz d => cases hs.1
      | own l' =>
        obtain ⟨c, us, e, ev, _, hlc, _⟩ := hs
        obtain ⟨c₀, us₀, e₀, ev₀, _, hlc₀, _⟩ := hs₀
        cases e
        rw [ev] at ev₀; cases ev₀
        obtain ⟨oc, eo⟩ := IsList.get hlc₀
        rw [hn] at eo; cases eo
      | hdr cc l' =>
        obtain ⟨xx, c, us, e, ev, hi, hzc, hlc, _⟩ := hs
        obtain ⟨xx₀, c₀, us₀, e₀, ev₀, hi₀, hzc₀, hlc₀, _⟩ := hs₀
        cases e
        rw [ev] at ev₀; cases ev₀
        obtain ⟨dx, es, k, e1, e2, e3⟩ := hi
        obtain ⟨dx', es', k', e1', e2', e3'⟩ := hi₀
        have z1 := st.z _ _ e1'
        rw [e1] at z1
        have hdx : dx = dx' := by
          have := Option.some.inj z1
          unfold instObj at this
          injection this with _ q _ _
          exact Option.some.inj q
        subst hdx
        have z2 := st.z _ _ e2'
        rw [e2] at z2
        have hes : es = es' := by
          have := Option.some.inj z2
          injection this with _ _ q _
          injection q with q _
          exact List.toArray_inj q
        subst hes
        match es, e3, e3' with
        | [en], ⟨⟨_, _, r1⟩, _⟩, ⟨⟨_, _, r2⟩, _⟩ =>
          rw [r1] at r2
          injection r2 with _ _ r3
          cases r3
          obtain ⟨oc, eo⟩ := IsList.get hlc₀
          rw [hn] at eo; cases eo
        | [], r, _ => exact r.elim
        | _ :: _ :: _, ⟨_, r⟩, _ => exact r.elim
  · intro b e
    cases e
    cases q : g.get? a with
    | none => rfl
    | some o => rw [S₀.keep _ _ q] at hn; cases hn
abbrev hN : List Str := [Str.ofString "_headers"]
theorem InstZ.inj1 {Z : Zm} {c x : Addr} {m : Str} {v w : Value} (hi : InstZ Z c [m] x [v]) (hi0 : InstZ Z c [m] x [w]) : v = w := by
  obtain ⟨dx, es, k, e1, e2, e3⟩ := hi
  obtain ⟨dx', es', k', e1', e2', e3'⟩ := hi0
  rw [e1] at e1'
  have hdx : dx = dx' := by
    have := Option.some.inj e1'
    unfold instObj at this
    injection this with _ q _ _
    exact Option.some.inj q
  subst hdx
  rw [e2] at e2'
  have hes : es = es' := by
    have := Option.some.inj e2'
    injection this with _ _ q _
    injection q with q _
    exact List.toArray_inj q
  subst hes
  match es, e3, e3' with
  | [en], ⟨⟨_, _, r1⟩, _⟩, ⟨⟨_, _, r2⟩, _⟩ =>
    rw [r1] at r2
    injection r2 with _ _ r3
  | [], r, _ => exact r.elim
  | _ :: _ :: _, ⟨_, r⟩, _ => exact r.elim
/-- the Headers object behind a name -/
theorem SeesF.hdr {env g Zg Z} {s : Shared} {x : Str} {c : Addr} {l : List (Str × Str)} (S : SeesF G env g Zg Z ρ s.heap) (e : ρ.lookup x = some (.hdr c l)) :
    ∃ (a xx : Addr) (vs : List Value), VarAt env s.heap x (.ref xx) ∧ InstZ Z c hN xx [.ref a] ∧ Z a = none ∧ PL s.heap a vs.toArray ∧ HoldsL Z (l.map hpair) vs ∧
      ∀ (Z' : Zm) (s' : Shared) (vs' : List Value) (l' : List (Str × Str)), UStep (fun b => b = a) Z s Z' s' → Z' a = none → PL s'.heap a vs'.toArray → HoldsL Z' (l'.map hpair) vs' → SeesF G env g Zg Z' (ρ.set x (.hdr c l')) s'.heap := by
  obtain ⟨pl, V⟩ := S.sees.vars
  obtain ⟨v, hv, xx, a, vs, ea, rfl, hi, hz, hl, hh⟩ := V.at_ x _ e
  refine ⟨a, xx, vs, hv, hi, hz, hl, hh, fun Z' s' vs' l' u hz' hl' hh' => ?_⟩
  have hne : ∀ {m}, s.heap.Ns env.locals m → env.locals ≠ a := fun {m} q => Ns.ne_list q hl
  have hce : ∀ {c v}, s.heap.IsCell c v → c ≠ a := fun {c v} q => IsCell.ne_list q hl
  have ga : g.get? a = none := V.og x a ea
  have keep : ∀ b o, b ≠ a → s.heap.get? b = some o → s'.heap.get? b = some o := fun b o nb e => u.keep b o nb e
  have hva : ∀ y w, VarAt env s.heap y w → VarAt env s'.heap y w := fun y w q => by
    rcases q with ⟨k, m, hm, e⟩ | ⟨k, c, hc, e⟩
    · obtain ⟨o, es, ep, e1, r⟩ := id hm
      exact .inl ⟨k, m, ⟨o, es, ep, keep _ _ (hne hm) e1, r⟩, e⟩
    · obtain ⟨o, e1, r⟩ := id e
      exact .inr ⟨k, c, hc, o, keep _ _ (hce e) e1, r⟩
  refine ⟨⟨S.sees.z0.mono u.z, u.zin, S.sees.ek, S.sees.eg, S.sees.eb, ?_, ?_, fun y hk => ?_, S.sees.cinj, pl, fun y sl q => ?_, fun y q => ?_, V.inj, V.og⟩, fun b o q => ?_, S.zg.trans u.z, fun b o q nb => ?_, S.lf, S.nofree, S.cf⟩
  · obtain ⟨m, hm⟩ := S.sees.ns
    obtain ⟨o, es, ep, e1, r⟩ := id hm
    exact ⟨m, o, es, ep, keep _ _ (hne hm) e1, r⟩
  · obtain ⟨m, hm⟩ := S.sees.ns
    obtain ⟨o, eo⟩ := Ns.get hm
    exact u.zn _ o (hne hm) eo S.sees.nz
  · obtain ⟨c, w, ec, hw, hzc⟩ := S.sees.cells y hk
    obtain ⟨o, eo, r⟩ := id hw
    exact ⟨c, w, ec, ⟨o, keep _ _ (hce hw) eo, r⟩, u.zn _ o (hce hw) eo hzc⟩
  · rw [Rho.lookup_set] at q
    by_cases hy : y = x
    · subst hy
      rw [if_pos rfl] at q; cases q
      exact ⟨_, hva _ _ hv, xx, a, vs', ea, rfl, hi.mono u.z, hz', hl', hh'⟩
    · rw [if_neg hy] at q
      obtain ⟨w, hw, hsl⟩ := V.at_ y sl q
      exact ⟨w, hva _ _ hw, hsl.ustep u fun b us hb eb q => hy (V.inj y x a (q ▸ eb) ea)⟩
  · rw [Rho.lookup_set] at q
    by_cases hy : y = x
    · rw [if_pos hy] at q; cases q
    · rw [if_neg hy] at q; exact V.out y q
  · exact keep b o (fun r => by rw [r, ga] at q; cases q) (S.keep b o q)
  · exact u.zn b o (fun r => by rw [r, ga] at q; cases q) (S.keep b o q) (S.zng b o q nb)
/-- ... frozen, with its list at its place -/
theorem Sees.unhdr {env g Z} {s : Shared} {x : Str} {c : Addr} {l : List (Str × Str)} (S : Sees G env g Z ρ s.heap) (e : ρ.lookup x = some (.hdr c l)) :
    ∃ (a : Addr) (o : Obj), Z a = none ∧ s.heap.get? a = some o ∧ o.cls = .type "list" ∧ g.get? a = none ∧ Sees (G.plus a (l.map hpair)) env g (Z.add a o) (ρ.set x (.fz (.inst c hN [.addr a]))) s.heap := by
  obtain ⟨pl, V⟩ := S.vars
  obtain ⟨v, hv, xx, a, vs, ea, rfl, hi, hz, hl, hh⟩ := V.at_ x _ e
  obtain ⟨o, eo, hc, k, hd⟩ := id hl
  have zle := Zm.le_add (o := o) hz
  have hL : Holds (Z.add a o) (.list (l.map hpair)) (.ref a) := ⟨a, vs, rfl, ⟨o, Zm.add_self .., hc, k, hd⟩, HoldsL.mono zle hh⟩
  have Z0 : (G.plus a (l.map hpair)).Z0 (Z.add a o) := by
    obtain ⟨⟨h₀, b, kk⟩, q⟩ := S.z0.mono zle
    exact ⟨⟨h₀, ⟨b.k, b.t⟩, kk⟩, q, hL⟩
  refine ⟨a, o, hz, eo, hc.c, V.og x a ea, Z0, S.zin.add eo, S.ek, S.eg, S.eb, S.ns, ?_, fun y hk => ?_, S.cinj, fun y => if y = x then none else pl y, fun y sl ey => ?_, fun y ey => ?_, fun y z b e1 e2 => ?_, fun y b ey => ?_⟩
  · obtain ⟨m, hm⟩ := S.ns
    rw [Zm.add_other _ _ (Ns.ne_list hm hl)]; exact S.nz
  · obtain ⟨c, w, ec, hw, hzc⟩ := S.cells y hk
    exact ⟨c, w, ec, hw, by rw [Zm.add_other _ _ (IsCell.ne_list hw hl)]; exact hzc⟩
  · rw [Rho.lookup_set] at ey
    by_cases hy : y = x
    · subst hy
      rw [if_pos rfl] at ey
      cases ey
      exact ⟨_, hv, by rw [if_pos rfl]; exact ⟨rfl, xx, _, rfl, hi.mono zle, HoldsL.one rfl⟩⟩
    · rw [if_neg hy] at ey
      obtain ⟨w, hw, hs⟩ := V.at_ y sl ey
      refine ⟨w, hw, ?_⟩
      rw [if_neg hy]
      have hne : ∀ b, pl y = some b → b ≠ a := fun b q q' => hy (V.inj y x a (q' ▸ q) ea)
      cases sl with
      | fz d => exact ⟨hs.1, Holds.mono zle hs.2⟩
      | own l' => obtain ⟨b, us, eb, ev, hzb, hlb, hhb⟩ := hs; exact ⟨b, us, eb, ev, by rw [Zm.add_other _ _ (hne b eb)]; exact hzb, hlb, HoldsL.mono zle hhb⟩
      | hdr c l' => obtain ⟨xx, b, us, eb, ev, hi, hzb, hlb, hhb⟩ := hs; exact ⟨xx, b, us, eb, ev, hi.mono zle, by rw [Zm.add_other _ _ (hne b eb)]; exact hzb, hlb, HoldsL.mono zle hhb⟩
  · rw [Rho.lookup_set] at ey
    by_cases hy : y = x
    · rw [if_pos hy] at ey; cases ey
    · rw [if_neg hy] at ey
      show (if y = x then none else pl y) = none
      rw [if_neg hy]; exact V.out y ey
  · replace e1 : (if y = x then none else pl y) = some b := e1
    replace e2 : (if z = x then none else pl z) = some b := e2
    by_cases hy : y = x
    · rw [if_pos hy] at e1; cases e1
    · by_cases hz' : z = x
      · rw [if_pos hz'] at e2; cases e2
      · rw [if_neg hy] at e1; rw [if_neg hz'] at e2; exact V.inj y z b e1 e2
  · replace ey : (if y = x then none else pl y) = some b := ey
    by_cases hy : y = x
    · rw [if_pos hy] at ey; cases ey
    · rw [if_neg hy] at ey; exact V.og y b ey
end
section
variable {G : Gc} {n : Nat} {sc : Scope} {ρ : Rho}
theorem EvL.unhdr {e : Expr} {x : Str} {c : Addr} {l : List (Str × Str)} {ds : List D} (hx : ρ.lookup x = some (.hdr c l)) (h : ∀ a, EvL (G.plus a (l.map hpair)) n sc (ρ.set x (.fz (.inst c hN [.addr a]))) e ds) (lf : LFs ds = true) : EvL G n sc ρ e ds := by
  intro A env g Z s Q E rm he S hq
  obtain ⟨a, o, hz, eo, hc, hg, S'⟩ := S.unhdr hx
  refine h a A env g _ s Q E rm he S' fun b us Z2 s2 st hn hz2 hl2 hh => hq b us _ s2 (st.unfreeze hz) hn ?_ hl2 (HoldsL.del (st.listAt hc) lf hh)
  have : b ≠ a := fun q => by rw [q, eo] at hn; cases hn
  rw [Zm.del_other _ this]; exact hz2
theorem Ev.unhdr {e : Expr} {x : Str} {c : Addr} {l : List (Str × Str)} {d : D} (hx : ρ.lookup x = some (.hdr c l)) (h : ∀ a, Ev (G.plus a (l.map hpair)) n sc (ρ.set x (.fz (.inst c hN [.addr a]))) e d) (lf : LF d = true) : Ev G n sc ρ e d := by
  intro A env g Z s Q E rm he S hq
  obtain ⟨a, o, hz, eo, hc, hg, S'⟩ := S.unhdr hx
  refine h a A env g _ s Q E rm he S' fun v Z2 s2 st hv => hq v _ s2 (st.unfreeze hz) (Holds.del (st.listAt hc) lf hv)
theorem Ev.debug {pos : Pos} : Ev G n sc ρ (.Name (Str.ofString "__debug__") pos) (.bool true) := by
  intro A env g Z s Q E rm he S hq
  rw [arm_eval_Name]
  refine wpAny_bind (wpAny_standAt ?_)
  rw [if_pos (by decide +kernel)]
  exact wpAny_bind (wpAny_rule (wpAny_pure (hq _ Z s (PStep.refl S.zin) rfl)))
/-- a contract of a class whose made objects keep the list they are given: a fresh list goes in -/
def MakesHdr (G : Gc) (n : Nat) (C : Addr) : Prop := ∀ a, Cv (G.plus a []) n (.ref C) [.addr a] (.inst C hN [.addr a])
/-- the made object's making, told with its list -/
theorem MakesHdr.call {C : Addr} (h : MakesHdr G n C) {A : Around} {E : Value → Shared → Prop} {Z : Zm} {s : Shared} {a : Addr} {Q : Value → Shared → Prop} (rm : Room n A) (z0 : G.Z0 Z) (zin : Zin Z s.heap) (hz : Z a = none) (hp : PL s.heap a ([] : List Value).toArray)
    (hq : ∀ xx Z' s', PStep Z s Z' s' → InstZ Z' C hN xx [.ref a] → Z' a = none → PL s'.heap a ([] : List Value).toArray → Q (.ref xx) s') : wpAny (model G.prog G.w) A (call (.ref C) [.ref a]) Q E s := by
  obtain ⟨o, eo, hpl, k, hdat⟩ := id hp
  have zle := Zm.le_add (o := o) hz
  have hL : Holds (Z.add a o) (.list []) (.ref a) := ⟨a, [], rfl, ⟨o, Zm.add_self .., hpl, k, hdat⟩, rfl⟩
  have Z0 : (G.plus a []).Z0 (Z.add a o) := by
    obtain ⟨⟨h₀, b, kk⟩, q⟩ := z0.mono zle
    exact ⟨⟨h₀, ⟨b.k, b.t⟩, kk⟩, q, hL⟩
  refine h a A _ s [.ref a] Q E rm Z0 (zin.add eo) (HoldsL.one rfl) fun v Z' s' st hv => ?_
  obtain ⟨xx, us, rfl, hi, hu⟩ := hv
  obtain ⟨u, rfl, hu'⟩ := one hu
  have eu : u = .ref a := hu'
  subst eu
  exact hq xx _ s' (st.unfreeze hz) (hi.del (st.listAt hpl.c)) (Zm.del_self ..) (IsList.keeps hp st.keep)
/-- x = C([]) -/
theorem Ex1.newHdr {x nm : Str} {C : Addr} {px np lp cp pos : Pos} (h : MakesHdr G n C) (c : Callee G sc nm (.ref C)) (hk : Kpr G (.ref C)) (hx : storable sc x = true) (hs : ∀ env : Env, env.scope = sc → swapsWith (.Call (.Name nm np) [.List [] lp] [] cp) (some (.Name x px)) pos.line env = pure false) :
    Ex1 G n sc ρ (.Assign [.Name x px] (.Call (.Name nm np) [.List [] lp] [] cp) pos) (.nx (ρ.set x (.hdr C []))) := by
  intro A env g Zg Z s Q E rm he S hq
  refine wpAny_Assign_Name ?_ (hs env he)
  refine wpAny_Call_NameR (c.eval S.sees he ?_)
  have hp := back_plain (pos := cp) (star_plain (es := [.List [] lp]) rfl env)
  refine callWith_of (P := fun h => G.Bs h) (by rw [hp]; rfl) hk (evalArgs_any hp ?_)
  rw [show starEach [.List [] lp] env = (false, eval (.List [] lp) env) :: [] from rfl]
  refine spliced_cons ((EvL.disp Evs.nil (by decide) : EvL G n sc ρ (.List [] lp) []) A env g Z s _ E rm he S.sees fun a vs Z1 s1 st1 hn hz hl hh => ?_)
  refine spliced_none (env := env) ?_
  have evs : vs = [] := hh
  subst evs
  have S1 := S.step st1
  refine ⟨S1.sees.z0.bs st1.zin, ?_⟩
  refine h.call rm S1.sees.z0 st1.zin hz hl fun xx Z2 s2 st2 hi hz2 hl2 => ?_
  have st := st1.trans st2
  exact SeesF.storeNew (sl := .hdr C []) S st (storable.kind hx he) hn ⟨xx, a, [], rfl, rfl, hi, hz2, hl2, rfl⟩ fun h' tk S' _ => hq _ Z2 _ (st_tr st.st ⟨h', tk, rfl⟩) ⟨rfl, S'⟩
end
end M3
end
-- part T5
section
set_option maxRecDepth 100000
namespace M3
open PySem PySem.Calls PySem.Spec PyProof.Rows PySem.W
section
variable {G : Gc} {n : Nat} {sc : Scope} {ρ : Rho}
/-- a method that may turn the object's list and hands back a text -/
def SetsHdr (G : Gc) (n : Nat) (C f : Addr) (nm y : Str) (l : List (Str × Str)) (r : Str × List (Str × Str)) : Prop :=
  ∀ {A : Around} {Z : Zm} {s : Shared} {x a : Addr} {vs : List Value} {v1 v2 : Value} {Q : Value → Shared → Prop} {E : Value → Shared → Prop}, Room n A → G.Z0 Z → Zin Z s.heap → InstZ Z C hN x [.ref a] → Z a = none → PL s.heap a vs.toArray → HoldsL Z (l.map hpair) vs → Holds Z (.str nm) v1 → Holds Z (.str y) v2 →
    (∀ w Z' s' vs', UStep (fun b => b = a) Z s Z' s' → Z' a = none → PL s'.heap a vs'.toArray → HoldsL Z' (r.2.map hpair) vs' → Holds Z' (.str r.1) w → Q w s') → wpAny (model G.prog G.w) A (call (.ref f) [.ref x, v1, v2]) Q E s
theorem hdr_call {A : Around} {E : Value → Shared → Prop} {env g Zg Z} {s : Shared} {x name nm y : Str} {px apos pos : Pos} {C f : Addr} {l : List (Str × Str)} {r : Str × List (Str × Str)} {es : List Expr} {Q : Value → Shared → Prop} (rm : Room n A) (he : env.scope = sc) (S : SeesF G env g Zg Z ρ s.heap)
    (ok : okName x = true) (hx : ρ.lookup x = some (.hdr C l)) (sh : MethShape (.Name x px) name apos es pos) (hm : methOk G.K C name f = true) (hn : ∀ a, dAt hN [D.addr a] name = none) (hk : Kpr G (.ref f)) (a : Evs G n sc ρ es [.str nm, .str y]) (hs : noStar es = true) (hf : SetsHdr G n C f nm y l r)
    (h : ∀ w Z' s', (∃ h' tk, s' = { s with heap := h', toks := tk }) → SeesF G env g Zg Z' (ρ.set x (.hdr C r.2)) s'.heap → Holds Z' (.str r.1) w → Q w s') :
    wpAny (model G.prog G.w) A (eval (.Call (.Attribute (.Name x px) name apos) es [] pos) env) Q E s := by
  obtain ⟨h1, h2⟩ := Bool.and_eq_true_iff.mp ok
  obtain ⟨pl, e⟩ := sh env
  refine methodCall_KW (pl := pl) (wpAny_Name (S.sees.load hx (fun v o hv hsl => ?_) (by simpa using h2)) (by simpa using h1)) e
  obtain ⟨xx0, a0, us, _, rfl, hi, hz, hl, hh⟩ := hsl
  refine (Mt.inst (P := fun f' fs => f' = .ref f ∧ fs = [.inst C hN [.addr a0]]) hm (hn a0) rfl hk ⟨rfl, rfl⟩ : Mt G n name (.inst C hN [.addr a0]) _) A Z s _ pl _ E rm S.sees.z0 S.sees.zin ⟨xx0, [.ref a0], rfl, hi, HoldsL.one rfl⟩ fun f' fs fds hk' hP hfs => ?_
  obtain ⟨rfl, rfl⟩ := hP
  obtain ⟨w0, rfl, x1, us1, rfl, hi1, hus1⟩ := one hfs
  obtain ⟨u1, rfl, eu1⟩ := one hus1
  have : u1 = .ref a0 := eu1
  subst this
  refine callWith_pos S.sees rm he hk hs a fun vs Z1 s1 st1 hv1 => ?_
  obtain ⟨v1, v2, rfl, hv1, hv2⟩ := two hv1
  have S1 := S.step st1
  obtain ⟨a1, xx, vs1, hva, hia, hza, hpa, hha, up⟩ := S1.hdr hx
  have e1 := (hv.keeps st1.keep).unique hva
  cases e1
  have e2 := InstZ.inj1 (hi.mono st1.z) hia
  cases e2
  refine hf rm S1.sees.z0 st1.zin (hi1.mono st1.z) hza hpa hha hv1 hv2 fun w Z2 s2 vs2 u hz2 hp2 hh2 hw => ?_
  exact h w Z2 s2 (st_tr st1.st u.st) (up Z2 s2 vs2 r.2 u hz2 hp2 hh2) hw
/-- head.setdefault(e1, e2) -/
theorem Ex1.setHdr {x name nm y : Str} {px apos pos spos : Pos} {C f : Addr} {l : List (Str × Str)} {r : Str × List (Str × Str)} {es : List Expr} (ok : okName x = true) (hx : ρ.lookup x = some (.hdr C l)) (sh : MethShape (.Name x px) name apos es pos) (hm : methOk G.K C name f = true) (hn : ∀ a, dAt hN [D.addr a] name = none) (hk : Kpr G (.ref f)) (a : Evs G n sc ρ es [.str nm, .str y]) (hs : noStar es = true) (hf : SetsHdr G n C f nm y l r)
    (hi : ∀ env : Env, env.scope = sc → interactive env = false) (hsw : ∀ env : Env, env.scope = sc → swapsWith (.Call (.Attribute (.Name x px) name apos) es [] pos) none spos.line env = pure false) :
    Ex1 G n sc ρ (.Expr (.Call (.Attribute (.Name x px) name apos) es [] pos) spos) (.nx (ρ.set x (.hdr C r.2))) := by
  intro A env g Zg Z s Q E rm he S hq
  refine wpAny_Expr_any ?_ (hi env he) (hsw env he)
  exact hdr_call rm he S ok hx sh hm hn hk a hs hf fun w Z' s' hs' S' _ => hq _ Z' s' hs' ⟨rfl, S'⟩
/-- if head.setdefault(e1, e2) != e: it gives back what it was told -/
theorem Ex1.ifHdr {x name nm y : Str} {px apos pos cpos ipos : Pos} {C f : Addr} {l : List (Str × Str)} {r : Str × List (Str × Str)} {es : List Expr} {e : Expr} {z : Str} {t fl : List Stmt} {out : Out} {b : Bool} (ok : okName x = true) (hx : ρ.lookup x = some (.hdr C l)) (sh : MethShape (.Name x px) name apos es pos) (hm : methOk G.K C name f = true) (hn : ∀ a, dAt hN [D.addr a] name = none) (hk : Kpr G (.ref f)) (a : Evs G n sc ρ es [.str nm, .str y]) (hs : noStar es = true) (hf : SetsHdr G n C f nm y l r)
    (he' : Ev G n sc (ρ.set x (.hdr C r.2)) e (.str z)) (hm' : behindInMarks .NotEq e = false) (hb : (r.1 != z) = b) (hthen : Ex G n sc (ρ.set x (.hdr C r.2)) (if b then t else fl) out) :
    Ex1 G n sc ρ (.If (.Compare (.Call (.Attribute (.Name x px) name apos) es [] pos) [.NotEq] [e] cpos) t fl ipos) out := by
  intro A env g Zg Z s Q E rm he S hq
  refine wpAny_If (wpAny_isTrue_Compare1 ?_ hm')
  refine hdr_call rm he S ok hx sh hm hn hk a hs hf fun w Z1 s1 hs1 S1 hw => ?_
  refine he' A env g Z1 s1 _ E rm he S1.sees fun w2 Z2 s2 st2 hw2 => ?_
  refine (Cmp.ne_str : Cmp G n .NotEq (.str r.1) (.str z) _) A Z2 s2 w w2 _ E rm (S1.step st2).sees.z0 st2.zin (Holds.mono st2.z hw) hw2 fun Z3 s3 st3 => ?_
  refine wpAny_truthy_bool ?_
  have key := hthen A env g Zg Z3 s3 Q E rm he ((S1.step st2).step st3) fun f' Z4 s4 hs4 ho => hq f' Z4 s4 (st_tr (st_tr (st_tr hs1 st2.st) st3.st) hs4) ho
  rw [hb]
  cases b <;> exact key
end
end M3
end
-- part T6
section
namespace M3
open PySem PySem.Calls PySem.Spec PyProof.Rows PySem.W PySem.Builtin PySem.Builtin.Str
section
variable {G : Gc} {n : Nat} {sc : Scope} {ρ : Rho}
/-- a call behind which a token has been told -/
def CvT (G : Gc) (n : Nat) (f : Value) (ds : List D) (d : D) : Prop :=
  ∀ (A : Around) (Z : Zm) (s : Shared) (vs : List Value) (Q : Value → Shared → Prop) (E : Value → Shared → Prop), Room n A → G.Z0 Z → Zin Z s.heap → HoldsL Z ds vs →
    (∀ v Z' s', PStep Z s Z' s' → 0 < s'.toks → Holds Z' d v → Q v s') → wpAny (model G.prog G.w) A (call f vs) Q E s
theorem CvT.cv {f ds d} (h : CvT G n f ds d) : Cv G n f ds d := fun A Z s vs Q E rm z0 zin hh hq => h A Z s vs Q E rm z0 zin hh fun v Z' s' st _ hv => hq v Z' s' st hv
/-- ExS, behind which a token has been told -/
def ExST (G : Gc) (n : Nat) (sc : Scope) (C : Addr) (ρ : Rho) (ns : List Str) (l : List D) (ss : List Stmt) (ns' : List Str) (l' : List D) : Prop :=
  ∀ (A : Around) (env : Env) (g : Heap) (Zg Z : Zm) (s : Shared) (x dx : Addr) (vs : List Value) (Q : Flow → Shared → Prop) (E : Value → Shared → Prop), Room n A → env.scope = sc → SeesF G env g Zg Z ρ s.heap → ρ.lookup (Str.ofString "self") = some (.fz (.addr x)) →
    Zg dx = none → SelfAt g x dx C ns vs → HoldsL Z l vs →
    (∀ g' Z' s' vs', (∃ h' tk, s' = { s with heap := h', toks := tk }) → (∀ b o, g'.get? b = some o → s'.heap.get? b = some o) → Zle Zg Z' → Zin Z' s'.heap → (∀ a o, g.get? a = some o → Zg a = none → Z' a = none) → SelfAt g' x dx C ns' vs' → HoldsL Z' l' vs' → (∀ b, b ≠ dx → g'.get? b = g.get? b) → 0 < s'.toks → Q .next s') →
    wpAny (model G.prog G.w) A (execs ss env) Q E s
/-- a statement that leaves the fields alone -/
theorem ExST.ex {C : Addr} {ns ns' : List Str} {l l' : List D} {st : Stmt} {ss : List Stmt} {ρ' : Rho} (h : Ex1 G n sc ρ st (.nx ρ')) (hs : ∀ sl, ρ.lookup (Str.ofString "self") = some sl → ρ'.lookup (Str.ofString "self") = some sl) (k : ExST G n sc C ρ' ns l ss ns' l') : ExST G n sc C ρ ns l (st :: ss) ns' l' := by
  intro A env g Zg Z s x dx vs Q E rm he S hx hz I hh hq
  -- told over the frame's own state: the data of the fields go along
  have S0 : SeesF G env g Z Z ρ s.heap := ⟨S.sees, S.keep, Zle.refl _, fun _ _ _ e => e, S.lf, S.nofree, S.cf⟩
  refine wpAny_execs_cons (h A env g Z Z s _ E rm he S0 fun f Z1 s1 hs1 ho => ?_)
  obtain ⟨rfl, S1⟩ := ho
  have S1' : SeesF G env g Zg Z1 ρ' s1.heap := ⟨S1.sees, S1.keep, S.zg.trans S1.zg, fun a o e nz => S1.zng a o e (S.zng a o e nz), S1.lf, S1.nofree, S1.cf⟩
  exact k A env g Zg Z1 s1 x dx vs Q E rm he S1' (hs _ hx) hz I (HoldsL.mono S1.zg hh) fun g' Z' s' vs' hs' => hq g' Z' s' vs' (by obtain ⟨h1, t1, rfl⟩ := hs1; obtain ⟨h2, t2, rfl⟩ := hs'; exact ⟨h2, t2, rfl⟩)
/-- self.name = e -/
theorem ExST.set {C : Addr} {ns ns' : List Str} {l l' : List D} {name : Str} {px apos pos : Pos} {e : Expr} {d : D} {ss : List Stmt} (h : Ev G n sc ρ e d) (ok : storeOk G.K C name = true) (hn : name ∉ ns) (hlen : ns.length ≤ 100)
    (hsw : ∀ env : Env, env.scope = sc → swapsWith e (some (.Attribute (.Name (Str.ofString "self") px) name apos)) pos.line env = pure false) (k : ExS G n sc C ρ (ns ++ [name]) (l ++ [d]) ss ns' l') : ExST G n sc C ρ ns l (.Assign [.Attribute (.Name (Str.ofString "self") px) name apos] e pos :: ss) ns' l' := by
  intro A env g Zg Z s x dx vs Q E rm he S hx hz I hh hq
  refine wpAny_execs_cons (plainObj_wpAny_Assign_Attribute (h A env g Z s _ E rm he S.sees fun v Z1 s1 st1 hv => ?_) (hsw env he))
  have S1 := S.step st1
  refine wpAny_Name (S1.sees.load hx (fun w o _ hsl => ?_) (by decide)) (by decide)
  have ew : w = .ref x := hsl.2
  subst ew
  obtain ⟨es, kk, hd, hent⟩ := I.d
  have I1 : SelfAt s1.heap x dx C ns vs := ⟨S1.keep _ _ I.i, es, kk, S1.keep _ _ hd, hent⟩
  refine setAttr_self (S1.sees.z0.bs S1.sees.zin).k I1 ok hn hlen fun h' o' e1 ⟨es', k', e2, hent'⟩ hsb => ?_
  subst e2
  have hdz : Z1 dx = none := S1.zng dx _ hd hz
  have hgx : x ≠ dx := fun q => by subst q; rw [I.i] at hd; cases hd
  let g' : Heap := g.update dx fun _ => dictOf es' k'
  have gd : g'.get? dx = some (dictOf es' k') := up_self hd rfl
  have go : ∀ b, b ≠ dx → g'.get? b = g.get? b := fun b hb => up_get hb
  have ldx : env.locals ≠ dx := fun q => by rw [← q, S1.lf] at hd; cases hd
  have u : UStep (fun b => b = dx) Z1 s1 Z1 { s1 with heap := h', toks := s1.toks + 2 } := ⟨⟨h', _, rfl⟩, fun b o nb q => (hsb.2 b nb).trans q, Zle.refl _, fun a o q => (hsb.2 a fun r => by rw [r, hdz] at q; cases q).trans (S1.sees.zin a o q), fun _ _ _ _ q => q⟩
  have S2 : SeesF G env g' Zg Z1 ρ h' := by
    refine ⟨(S1.sees.ustep u (fun m hm q => ldx q) (fun c v hc hk q => ?_) (fun pl V y b vs hl hy q => ?_)).base fun pl V y a hy => ?_, fun b o q => ?_, S1.zg, fun a o q nz => ?_, ?_, S1.nofree, fun y c hk hc => ?_⟩
    · obtain ⟨y, hk, hc⟩ := hk
      rcases hk with hk | hk
      · have := S1.cf y c hk hc; rw [q, hd] at this; cases this
      · exact S1.nofree y hk
    · have := V.og y b hy; rw [q, hd] at this; cases this
    · have := V.og y a hy
      rw [go a fun q => by rw [q, hd] at this; cases this]; exact this
    · by_cases hb : b = dx
      · subst hb; rw [gd] at q; cases q; exact e1
      · rw [go b hb] at q; exact (hsb.2 b hb).trans (S1.keep b o q)
    · by_cases hb : a = dx
      · subst hb; exact hdz
      · rw [go a hb] at q; exact S1.zng a o q nz
    · rw [go _ ldx]; exact S1.lf
    · have := S1.cf y c hk hc
      rw [go c fun q => by rw [q, hd] at this; cases this]; exact this
  refine wpAny_toks (k A env g' Zg Z1 _ x dx (vs ++ [v]) _ E rm he S2 hx hz ⟨(go x hgx).trans I.i, es', k', gd, hent'⟩ ((HoldsL.mono st1.z hh).append (HoldsL.one hv)) fun g2 Z2 s2 vs2 hs2 a1 a2 a3 a4 a5 a6 a7 htk => ?_)
  refine hq g2 Z2 s2 vs2 (by obtain ⟨h1, t1, rfl⟩ := st1.st; obtain ⟨h2, t2, rfl⟩ := hs2; exact ⟨h2, t2, rfl⟩) a1 a2 a3 (fun a o q nz => ?_) a5 a6 (fun b hb => (a7 b hb).trans (go b hb)) (Nat.lt_of_lt_of_le (Nat.succ_pos _) htk)
  by_cases hb : a = dx
  · subst hb; exact a4 a _ gd nz
  · exact a4 a o ((go a hb).trans q) nz
end
section
variable {G : Gc} {n : Nat} {A : Around}
/-- making an made object of a class of the text -/
theorem CvT.make {C f : Addr} {fd : FuncData} {body : List Stmt} {ps : List Str} {ds : List D} {nsF : List Str} {lF : List D} (hm : makesIn G.K C = true) (hi : findIn G.K (.ref C) "__init__" = some (some (.ref f))) (hf : typeIn G.K (.ref f) = some (.type "function")) (F : FnAt G f fd body)
    (hbind : ∀ (s : Shared) v vs, G.K.In s.heap → vs.length = ds.length → BindsTo s fd ⟨v :: vs, []⟩ ((Str.ofString "self" :: ps).zip (v :: vs))) (hnd : (Str.ofString "self" :: ps).Nodup) (hlen : ps.length = ds.length)
    (hkind : ((Str.ofString "self" :: ps).all fun y => fd.scope.names.lookup y == some .local || fd.scope.names.lookup y == some .cell) = true)
    (h : ∀ x, ExST G n fd.scope C ((Str.ofString "self", .fz (.addr x)) :: rho0 ps ds) [] [] body nsF lF) : CvT G (n + 1) (.ref C) ds (.inst C nsF lF) := by
  intro A Z s vs Q E rm z0 zin hh hq
  have hl : vs.length = ds.length := hh.length
  refine wpAny_call ?_
  obtain ⟨hp, gs, dr, tk, os⟩ := s
  have X := (z0.bs zin).k
  refine make_core (makes_of X hm) (looks_findIn X hi) (fun self => bind_fn X self hf) (.inl rfl) ?_
  let h2 : Heap := (hp.push emptyDict).push (instObj C hp.objs.size)
  have k2 : ∀ b o, hp.get? b = some o → h2.get? b = some o := fun b o e => Heap.get?_push_of_some _ (Heap.get?_push_of_some _ e)
  have hx2 : h2.get? (hp.objs.size + 1) = some (instObj C hp.objs.size) := by
    have := Heap.get?_push_size (hp.push emptyDict) (o := instObj C hp.objs.size) rfl
    rw [Heap.size_push] at this; exact this
  have hd2 : h2.get? hp.objs.size = some emptyDict := Heap.get?_push_of_some _ (Heap.get?_push_size _ rfl)
  have zin2 : Zin Z h2 := fun a o e => k2 a o (zin a o e)
  have zx : Z (hp.objs.size + 1) = none := zin.none (le_none (Nat.le_succ _))
  have zd : Z hp.objs.size = none := zin.none (le_none (Nat.le_refl _))
  have hmap : ((Str.ofString "self" :: ps).zip (Value.ref (hp.objs.size + 1) :: vs)).map (·.1) = Str.ofString "self" :: ps := by rw [List.map_fst_zip]; simp; omega
  have hr := under_new C vs A
  refine enter (s := ⟨h2, gs, dr, tk, os⟩) (g := h2) F (by rw [hr.1]; have := rm.hd; omega) z0 zin2 (fun _ _ e => e) (hbind _ _ vs (z0.bs zin2).k hl) (by rw [hmap]; exact hnd) ?_ (fun _ => none) (ρ₀ := (Str.ofString "self", .fz (.addr (hp.objs.size + 1))) :: rho0 ps ds) (fun y sl e => ?_) (fun _ _ => rfl) (fun _ _ _ e => nomatch e) (fun _ _ e => nomatch e) fun env s₁ hs hk he S => ?_
  · rw [List.all_eq_true]
    intro p hp'
    have : p.1 ∈ Str.ofString "self" :: ps := by have := List.mem_map_of_mem (f := (·.1)) hp'; rwa [hmap] at this
    exact List.all_eq_true.mp hkind _ this
  · rw [List.lookup_cons] at e
    rw [List.zip_cons_cons, List.lookup_cons]
    cases b : y == Str.ofString "self" with
    | true => rw [b] at e; cases e; exact ⟨_, rfl, rfl, rfl⟩
    | false => rw [b] at e; exact rho0_at hh e
  · refine h (hp.objs.size + 1) _ env h2 Z Z s₁ (hp.objs.size + 1) hp.objs.size [] _ _ (rm.make) he S rfl zd ⟨hx2, [], 0, hd2, trivial⟩ rfl fun g' Z' s' vs' hs' a1 a2 a3 a4 a5 a6 a7 htk => ?_
    refine ⟨rfl, ?_⟩
    obtain ⟨es, kk, gd, hent⟩ := a5.d
    have st0 : PStep Z ⟨hp, gs, dr, tk, os⟩ Z' s' := by
      refine ⟨?_, fun b o e => ?_, a2, a3, fun a o e nz => a4 a o (k2 a o e) nz⟩
      · obtain ⟨q1, q2, rfl⟩ := hs; obtain ⟨q3, q4, rfl⟩ := hs'; exact ⟨q3, q4, rfl⟩
      · have : b ≠ hp.objs.size := Nat.ne_of_lt (Heap.lt_size e)
        exact a1 b o ((a7 b this).trans (k2 b o e))
    have st1 := st0.freeze (a := hp.objs.size) (o := dictOf es kk) fresh_none (a4 _ _ hd2 zd) (a1 _ _ gd)
    have nx : hp.objs.size + 1 ≠ hp.objs.size := Nat.succ_ne_self _
    have st2 := st1.freeze (a := hp.objs.size + 1) (o := instObj C hp.objs.size) (le_none (Nat.le_succ _)) (by rw [Zm.add_other _ _ nx]; exact a4 _ _ hx2 zx) (a1 _ _ a5.i)
    refine hq _ _ s' st2 htk ⟨_, vs', rfl, ⟨hp.objs.size, es, kk, Zm.add_self .., ?_, hent⟩, HoldsL.mono ?_ a6⟩
    · rw [Zm.add_other _ _ (Ne.symm nx)]; exact Zm.add_self ..
    · exact (Zm.le_add (a4 _ _ hd2 zd)).trans (Zm.le_add (by rw [Zm.add_other _ _ nx]; exact a4 _ _ hx2 zx))
/-- a class whose made objects keep the list they are given: a fresh list goes in -/
def MakesHdrT (G : Gc) (n : Nat) (C : Addr) : Prop := ∀ a, CvT (G.plus a []) n (.ref C) [.addr a] (.inst C hN [.addr a])
theorem MakesHdrT.makes {C : Addr} (h : MakesHdrT G n C) : MakesHdr G n C := fun a => (h a).cv
end
end M3
end
-- part T7
section
set_option maxRecDepth 100000
namespace M3
open PySem PySem.Calls PySem.Spec PyProof.Rows PySem.W
/-- the sort's questions, answered by lt -/
def kRun {α : Type} (lt : Nat → Nat → Bool) : KasT α → α
  | .ret a => a
  | .ask i j k => kRun lt (k (lt i j))
def kIn {α : Type} (N : Nat) (P : α → Prop) : KasT α → Prop
  | .ret a => P a
  | .ask i j k => i < N ∧ j < N ∧ ∀ b, kIn N P (k b)
theorem kIn_bind {α β : Type} {N : Nat} {P : α → Prop} {P' : β → Prop} {f : α → KasT β} : ∀ (t : KasT α), kIn N P t → (∀ a, P a → kIn N P' (f a)) → kIn N P' (t.bind f)
  | .ret a, h, hf => hf a h
  | .ask i j k, ⟨h1, h2, h3⟩, hf => ⟨h1, h2, fun b => kIn_bind (k b) (h3 b) hf⟩
theorem kIn_wp {α : Type} {N : Nat} {P : α → Prop} {cmp : Nat → Nat → (Bool → Shared → Prop) → Shared → Prop} {lt : Nat → Nat → Bool} {s : Shared} {Q : α → Shared → Prop} (hc : ∀ i j C, i < N → j < N → C (lt i j) s → cmp i j C s) :
    ∀ (t : KasT α), kIn N P t → (P (kRun lt t) → Q (kRun lt t) s) → t.kasWp cmp Q s
  | .ret a, h, hq => hq h
  | .ask i j k, ⟨h1, h2, h3⟩, hq => hc i j _ h1 h2 (kIn_wp hc (k (lt i j)) (h3 _) hq)
def pOk (N : Nat) (p : Array Nat) : Prop := p.toList.Perm (List.range N)
section
variable {N : Nat} (h0 : 0 < N)
include h0
theorem pOk.get {p : Array Nat} (h : pOk N p) (k : Nat) : p.getD k 0 < N := by
  by_cases hk : k < p.size
  · have : p.getD k 0 = p[k] := by simp [Array.getD, hk]
    rw [this]
    have hm : p[k] ∈ p.toList := by simp
    exact List.mem_range.mp (h.mem_iff.mp hm)
  · have : p.getD k 0 = 0 := by simp [Array.getD, hk]
    omega
omit h0 in
theorem pOk.rev {p : Array Nat} (h : pOk N p) (i j : Nat) : pOk N (kas_rev p i j) := (Array.perm_iff_toList_perm.mp (mirror_perm p i j _)).trans h
omit h0 in
theorem pOk.bub {p : Array Nat} (h : pOk N p) (i j : Nat) : pOk N (bubble p i j) := (Array.perm_iff_toList_perm.mp (bubble_perm p i j)).trans h
theorem kin_asc {p : Array Nat} (h : pOk N p) : ∀ f n, kIn N (fun _ => True) (kas_asc p f n)
  | 0, n => trivial
  | f + 1, n => ⟨h.get h0 _, h.get h0 _, fun b => by
    cases b
    · exact kin_asc h f (n + 1)
    · exact trivial⟩
theorem kin_desc : ∀ f {p : Array Nat} (n q : Nat), pOk N p → kIn N (fun r => pOk N r.1) (kas_desc f p n q)
  | 0, p, n, q, h => h
  | f + 1, p, n, q, h => by
    refine ⟨h.get h0 _, h.get h0 _, fun b => ?_⟩
    cases b
    · refine ⟨h.get h0 _, h.get h0 _, fun b => ?_⟩
      cases b
      · exact kin_desc f (n + 1) (q + 1) h
      · exact h
    · show kIn N _ (if true = true then (if q > 0 then kas_desc f (kas_rev p (n - (q + 1)) n) (n + 1) 0 else kas_desc f p (n + 1) 0) else _)
      rw [if_pos rfl]
      split
      · exact kin_desc f _ _ (h.rev _ _)
      · exact kin_desc f _ _ h
theorem kin_tail3 {p : Array Nat} (h : pOk N p) (n nrem : Nat) : kIn N (fun r => pOk N r.2) (kas_tail3 n nrem p) :=
  kIn_bind _ (kin_asc h0 (h.rev _ _) _ _) fun _ _ => h.rev _ _
theorem kin_descPart {p : Array Nat} (h : pOk N p) (n nrem : Nat) : kIn N (fun r => pOk N r.2) (kas_descPart n nrem p) := by
  refine kIn_bind _ (kin_desc h0 _ _ _ h) fun r hr => ?_
  split
  · exact kin_tail3 h0 (hr.rev _ _) _ _
  · exact kin_tail3 h0 hr _ _
theorem kin_count {p : Array Nat} (h : pOk N p) (nrem : Nat) : kIn N (fun r => pOk N r.2) (kas_count nrem p) := by
  refine kIn_bind _ (kin_asc h0 h _ _) fun n _ => ?_
  split
  · exact h
  · split
    · refine ⟨h.get h0 _, h.get h0 _, fun b => ?_⟩
      cases b
      · exact kin_descPart h0 (h.rev _ _) _ _
      · exact h
    · exact kin_descPart h0 h _ _
theorem kin_place {p : Array Nat} (h : pOk N p) (k : Nat) : ∀ f l r, kIn N (fun _ => True) (kas_place p k f l r)
  | 0, l, r => trivial
  | f + 1, l, r => by
    unfold kas_place
    split
    · exact trivial
    · refine ⟨h.get h0 _, h.get h0 _, fun b => ?_⟩
      cases b
      · exact kin_place h k f _ _
      · exact kin_place h k f _ _
theorem kin_bin : ∀ f {p : Array Nat} (k : Nat), pOk N p → kIn N (pOk N) (kas_bin f p k)
  | 0, p, k, h => h
  | f + 1, p, k, h => kIn_bind _ (kin_place h0 h k _ _ _) fun l _ => kin_bin f (k + 1) (h.bub _ _)
theorem kin_sort : kIn N (pOk N) (kas_sort N) := by
  refine kIn_bind _ (kin_count h0 (p := List.toArray (List.range N)) (by unfold pOk; simp) N) fun r hr => ?_
  split
  · exact kin_bin h0 _ _ hr
  · exact hr
end
section
variable {prog : Program} {w : World} {A : Around} {E : Value → Shared → Prop} {s : Shared}
/-- sorted, by a pure answer to each question -/
theorem sorted_by {l : Addr} {vs : List Value} {κ : SortKind} {lt : Nat → Nat → Bool} {Q : Value → Shared → Prop} (hl : s.heap.IsList l vs.toArray) (h2 : 2 ≤ vs.length) (h64 : vs.length < 64)
    (hk : ∀ s' : Shared, (∀ b o, s.heap.get? b = some o → s'.heap.get? b = some o) → ∀ Q' : SortKind → Shared → Prop, Q' κ s' → wpAny (model prog w) A.in1.in1 (keyKind' vs.toArray) Q' (fun _ _ => False) s')
    (hlt : ∀ s' : Shared, (∀ b o, s.heap.get? b = some o → s'.heap.get? b = some o) → ∀ i j, i < vs.length → j < vs.length → ∀ Q' : Bool → Shared → Prop, Q' (lt i j) s' → wpAny (model prog w) A.in1.in1 (keyLt' κ (vs.getD i Value.none) (vs.getD j Value.none)) Q' (fun _ _ => False) s')
    (h : pOk vs.length (kRun lt (kas_sort vs.length)) → Q (.ref (s.heap.objs.size + 1)) { s with heap := sortedAll s.heap vs (List.toArray ((kRun lt (kas_sort vs.length)).toList.map fun i => vs.getD i Value.none)) }) :
    wpAny (model prog w) A (call (.builtin "sorted") [.ref l]) Q E s := by
  refine Calls.call_function_entry kind_sorted plain_sorted entry_sorted (args_sorted1 _) ?_
  unfold Builtin.«sorted»
  refine wpAny_bind (m := checkCount "sorted" 1 1 _) (wpAny_pure ?_)
  refine wpAny_bind (collect_list hl ?_ (by rw [sizeLine_eq]; omega))
  refine wpAny_bind (wpAny_newList ?_ (by rw [sizeLine_eq]; omega))
  have hsz : ((s.heap.push (seqObj "list" #[] 0)).update s.heap.objs.size (Obj.mapSeq (· ++ vs.toArray))).objs.size = s.heap.objs.size + 1 := by
    rw [Heap.size_update, size_push']
  have hoL : (((s.heap.push (seqObj "list" #[] 0)).update s.heap.objs.size (Obj.mapSeq (· ++ vs.toArray))).push (seqObj "list" vs.toArray 0)).get? (s.heap.objs.size + 1) = some (seqObj "list" vs.toArray 0) := by
    rw [← hsz]; exact Heap.get?_push_size _ rfl
  have keep : ∀ b o, s.heap.get? b = some o → (((s.heap.push (seqObj "list" #[] 0)).update s.heap.objs.size (Obj.mapSeq (· ++ vs.toArray))).push (seqObj "list" vs.toArray 0)).get? b = some o := fun b o q => by
    have hlt : b < s.heap.objs.size := Heap.lt_size q
    rw [Heap.get?_push_ne _ _ _ (by rw [hsz]; exact Nat.ne_of_lt (Nat.lt_succ_of_lt hlt)), Heap.get?_update_ne _ _ _ _ (Nat.ne_of_lt hlt), Heap.get?_push_ne _ _ _ (Nat.ne_of_lt hlt)]
    exact q
  show wpAny _ _ _ _ _ { s with heap := ((s.heap.push (seqObj "list" #[] 0)).update s.heap.objs.size (Obj.mapSeq (· ++ vs.toArray))).push (seqObj "list" vs.toArray 0) }
  rw [hsz]
  generalize hH : ((s.heap.push (seqObj "list" #[] 0)).update s.heap.objs.size (Obj.mapSeq (· ++ vs.toArray))).push (seqObj "list" vs.toArray 0) = H at *
  refine wpAny_bind (wpAny_holding (wpAny_call_entry slot_list_sort ⟨_, hoL, rfl⟩ entry_list_sort ?body (args_list_sort _)))
  rw [list_sort_plain]
  have ha : s.heap.objs.size + 1 < H.objs.size := Heap.lt_size hoL
  refine wpAny_bind (listItems_at (s := { s with heap := H }) hoL rfl ?_)
  refine wpAny_bind (listUpdate_at (s := { s with heap := H }) hoL rfl ?_ (by rw [List.size_toArray, sizeLine_eq]; omega) (Nat.zero_le _))
  obtain ⟨e1, ho1⟩ : ∃ e1, (H.update (s.heap.objs.size + 1) (Obj.mapSeq fun _ => (#[] : Array Value))).get? (s.heap.objs.size + 1) = some (seqObj "list" #[] e1) := ⟨_, get?_update_seq hoL fun _ => #[]⟩
  refine wpAny_bind (seqEpoch_at ho1 rfl ?_)
  refine wpAny_bind (wpAny_newTuple ?_ (by show vs.length ≤ _; rw [sizeLine_eq]; omega))
  refine wpAny_bind (wpAny_newList ?_ (Nat.zero_le _))
  refine wpAny_holding ?_
  have ho6 : (((H.update (s.heap.objs.size + 1) (Obj.mapSeq fun _ => #[])).push (seqObj "tuple" vs.toArray 0)).push (seqObj "list" #[] 0)).get? (s.heap.objs.size + 1) = some (seqObj "list" #[] e1) := by
    rw [Heap.get?_push_ne _ _ _ (by rw [size_push', Heap.size_update]; exact Nat.ne_of_lt (Nat.lt_succ_of_lt ha)), Heap.get?_push_ne _ _ _ (by rw [Heap.size_update]; exact Nat.ne_of_lt ha)]
    exact ho1
  have keep6 : ∀ b o, s.heap.get? b = some o → (((H.update (s.heap.objs.size + 1) (Obj.mapSeq fun _ => #[])).push (seqObj "tuple" vs.toArray 0)).push (seqObj "list" #[] 0)).get? b = some o := fun b o q => by
    have hb : b < s.heap.objs.size := Heap.lt_size q
    have := keep b o q
    refine Heap.get?_push_of_some _ (Heap.get?_push_of_some _ ?_)
    rw [Heap.get?_update_ne _ _ _ _ (Nat.ne_of_lt (Nat.lt_succ_of_lt hb))]
    exact this
  show wpAny (model prog w) _ _ _ _ { s with heap := ((H.update (s.heap.objs.size + 1) (Obj.mapSeq fun _ => (#[] : Array Value))).push (seqObj "tuple" vs.toArray 0)).push (seqObj "list" #[] 0) }
  dsimp only
  have hn2 : ¬ vs.toArray.size < 2 := by rw [List.size_toArray]; omega
  rw [if_neg hn2, if_neg hn2]
  refine wpAny_bind (wpAny_mono (hk { s with heap := ((H.update (s.heap.objs.size + 1) (Obj.mapSeq fun _ => (#[] : Array Value))).push (seqObj "tuple" vs.toArray 0)).push (seqObj "list" #[] 0) } keep6 (fun κ' s' => κ' = κ ∧ s' = { s with heap := ((H.update (s.heap.objs.size + 1) (Obj.mapSeq fun _ => (#[] : Array Value))).push (seqObj "tuple" vs.toArray 0)).push (seqObj "list" #[] 0) }) ⟨rfl, rfl⟩) (fun κ' s0 hk' => ?_) fun _ _ x => x.elim)
  obtain ⟨rfl, rfl⟩ := hk'
  have h00 : 0 < vs.length := by omega
  refine wpAny_bind (wpAny_mono (kat_run (vs := vs) (ks := vs) (G := fun p s' => (pOk vs.length p ∧ p = kRun lt (kas_sort vs.length)) ∧ s' = { s with heap := ((H.update (s.heap.objs.size + 1) (Obj.mapSeq fun _ => (#[] : Array Value))).push (seqObj "tuple" vs.toArray 0)).push (seqObj "list" #[] 0) }) (Q := fun st' s' => ∃ p : Array Nat, p.size = vs.length ∧ arrOf st' = p.map (kas_item (vs.toArray.zip vs.toArray)) ∧ failedOf st' = none ∧ (pOk vs.length p ∧ p = kRun lt (kas_sort vs.length)) ∧ s' = { s with heap := ((H.update (s.heap.objs.size + 1) (Obj.mapSeq fun _ => (#[] : Array Value))).push (seqObj "tuple" vs.toArray 0)).push (seqObj "list" #[] 0) })
    rfl h2 h64 (fun p' st' s' a1 a2 a3 a4 => ⟨p', a1, a2, a3, a4.1, a4.2⟩) (kIn_wp (lt := lt) (fun i j C hi hj hC => hlt _ keep6 i j hi hj C hC) _ (kin_sort h00) fun hp => ⟨⟨hp, rfl⟩, rfl⟩)) ?_ fun _ _ e => e)
  rintro ⟨⟨⟩, st'⟩ s' ⟨p, hp, har, hf, ⟨hok, rfl⟩, rfl⟩
  dsimp only
  have hout := kat_snds (ks := vs) (vs := vs) rfl har
  have hsz2 : (List.toArray ((kRun lt (kas_sort vs.length)).toList.map fun i => vs.getD i Value.none)).size = vs.length := by rw [List.size_toArray, List.length_map, Array.length_toList, hp]
  rw [hout]
  refine wpAny_bind (seqEpoch_at ho6 rfl ?_)
  refine wpAny_bind (listUpdate_at ho6 rfl ?_ (Nat.zero_le _) (Nat.le_trans (Nat.le_of_eq hsz2) (by rw [sizeLine_eq]; omega)))
  rw [hf]
  simp only [bne_self_eq_false, Bool.false_eq_true, if_false]
  refine wpAny_pure ⟨_, rfl, wpAny_pure ⟨_, rfl, ?_⟩⟩
  have := h hok
  unfold sortedAll sortedHeap at this
  rw [hH] at this
  exact this
end
end M3
end
-- part T8
section
set_option maxRecDepth 100000
namespace M3
open PySem PySem.Calls PySem.Spec PyProof.Rows PySem.W
def nilP : Str × Str := (Str.empty, Str.empty)
/-- which of two pairs comes first, by their names -/
def ltP (l : List (Str × Str)) (i j : Nat) : Bool := decide ((l.getD i nilP).1.cps.toList < (l.getD j nilP).1.cps.toList)
def sortP (l : List (Str × Str)) : List (Str × Str) := (kRun (ltP l) (kas_sort l.length)).toList.map fun i => l.getD i nilP
theorem HoldsL.at_ {Z : Zm} {l : List D} {vs : List Value} (h : HoldsL Z l vs) {i : Nat} (hi : i < l.length) : Holds Z (l.getD i .none) (vs.getD i Value.none) := by
  obtain ⟨v, hv, hd⟩ := h.get (i := i) (d := l[i]) (by simp [hi])
  rw [List.getD_eq_getElem?_getD, List.getD_eq_getElem?_getD, hv, List.getElem?_eq_getElem hi]
  exact hd
theorem HoldsL.pick {Z : Zm} {l : List D} {vs : List Value} (h : HoldsL Z l vs) : ∀ (is : List Nat), (∀ i ∈ is, i < l.length) → HoldsL Z (is.map fun i => l.getD i .none) (is.map fun i => vs.getD i Value.none)
  | [], _ => rfl
  | i :: is, hi => ⟨_, _, rfl, h.at_ (hi i List.mem_cons_self), HoldsL.pick h is fun j hj => hi j (List.mem_cons_of_mem _ hj)⟩
theorem getD_map {α : Type} (f : α → D) (l : List α) (d : α) {i : Nat} (hi : i < l.length) : (l.map f).getD i .none = f (l.getD i d) := by
  simp [List.getD_eq_getElem?_getD, hi]
theorem pOk.mem {N : Nat} {p : Array Nat} (h : pOk N p) : ∀ i ∈ p.toList, i < N := fun i hi => List.mem_range.mp (h.mem_iff.mp hi)
theorem holds_hpair {Z : Zm} {p : Str × Str} {v : Value} (h : Holds Z (hpair p) v) : ∃ a t u o n, v = .ref a ∧ Z a = some o ∧ o.cls = .type "tuple" ∧ o.data = .seq (List.toArray [Value.str p.1 t, Value.str p.2 u]) n := by
  obtain ⟨a, vs, rfl, ⟨o, eo, hp, n, hd⟩, hh⟩ := h
  obtain ⟨v, w, rfl, ⟨t, rfl⟩, u, rfl⟩ := two hh
  exact ⟨a, t, u, o, n, rfl, eo, hp.c, hd⟩
theorem tups_pairs {Z : Zm} {h : Heap} (zin : Zin Z h) : ∀ {l : List (Str × Str)} {vs : List Value}, HoldsL Z (l.map hpair) vs → ∃ fs, KatTups h vs fs ∧ fs.length = l.length ∧ ∀ v ∈ fs, ∃ x t, v = .str x t
  | [], _, hh => by
    have : _ = [] := hh
    subst this
    exact ⟨[], trivial, rfl, by simp⟩
  | p :: l, _, ⟨v, vs, rfl, hv, hr⟩ => by
    obtain ⟨fs, h1, h2, h3⟩ := tups_pairs zin hr
    obtain ⟨a, t, u, o, n, rfl, eo, ec, ed⟩ := holds_hpair hv
    exact ⟨.str p.1 t :: fs, KatTups.cons (zin _ _ eo) ec ed rfl h1, by simp [h2], fun w hw => by
      rcases List.mem_cons.mp hw with rfl | hw
      · exact ⟨_, _, rfl⟩
      · exact h3 w hw⟩
theorem nodup_at {l : List (Str × Str)} (h : (l.map (·.1)).Nodup) {i j : Nat} (hi : i < l.length) (hj : j < l.length) (e : (l.getD i nilP).1 = (l.getD j nilP).1) : i = j := by
  have h1 : (l.map (·.1))[i]'(by simpa using hi) = (l.map (·.1))[j]'(by simpa using hj) := by
    simpa [List.getD_eq_getElem?_getD, hi, hj] using e
  exact (List.getElem_inj h).mp h1
section
variable {G : Gc} {n : Nat} {sc : Scope} {ρ : Rho}
theorem CvL.sortedPairs {l : List (Str × Str)} (h2 : 2 ≤ l.length) (h64 : l.length < 64) (hnd : (l.map (·.1)).Nodup) : CvL G n (.builtin "sorted") [.list (l.map hpair)] ((sortP l).map hpair) := by
  intro A Z s vs Q E rm z0 zin hh hq
  obtain ⟨v, rfl, a, us, rfl, hs, hu⟩ := one hh
  have hlen : us.length = l.length := by rw [hu.length]; simp
  refine sorted_by (κ := tuples' true) (lt := ltP l) (hs.list zin) (by omega) (by omega) (fun s' keep Q' hQ' => ?_) (fun s' keep i j hi hj Q' hQ' => ?_) fun hok => ?_
  · have zin' : Zin Z s'.heap := fun b o e => keep b o (zin b o e)
    obtain ⟨fs, k1, k2, k3⟩ := tups_pairs zin' hu
    refine kat_kind (T := .type "str") k1 (by omega) (fun v hv => ?_) (by decide) hQ'
    obtain ⟨x, t, rfl⟩ := k3 v hv
    exact Looks.of_pure rfl
  · have zin' : Zin Z s'.heap := fun b o e => keep b o (zin b o e)
    have hi' : i < l.length := by omega
    have hj' : j < l.length := by omega
    have h1 := hu.at_ (i := i) (by simpa using hi')
    have h2 := hu.at_ (i := j) (by simpa using hj')
    rw [getD_map hpair l nilP hi'] at h1
    rw [getD_map hpair l nilP hj'] at h2
    obtain ⟨a1, t1, u1, o1, n1, e1, eo1, ec1, ed1⟩ := holds_hpair h1
    obtain ⟨a2, t2, u2, o2, n2, e2, eo2, ec2, ed2⟩ := holds_hpair h2
    rw [e1, e2]
    refine kat_lt (zin' _ _ eo1) ed1 (zin' _ _ eo2) ed2 ?_
    refine kat_cons (PyProof.Rows.eqBool_str ?_)
    by_cases e : (l.getD i nilP).1 = (l.getD j nilP).1
    · have hij := nodup_at hnd hi' hj' e
      subst hij
      rw [beq_self_eq_true]
      refine kat_yes (kat_cons (PyProof.Rows.eqBool_str ?_))
      rw [beq_self_eq_true]
      refine kat_yes (kat_nil ?_)
      have : ltP l i i = decide ((List.toArray [Value.str (l.getD i nilP).1 t1, Value.str (l.getD i nilP).2 u1]).size < (List.toArray [Value.str (l.getD i nilP).1 t2, Value.str (l.getD i nilP).2 u2]).size) := by
        unfold ltP
        simp [List.lt_irrefl]
      rw [← this]; exact hQ'
    · rw [show ((l.getD i nilP).1 == (l.getD j nilP).1) = false by simpa using e]
      refine kat_no ?_
      exact oneLt_str hQ'
  · rw [hlen] at hok ⊢
    refine sortedNew zin ?_ hq
    have := hu.pick (kRun (ltP l) (kas_sort l.length)).toList (fun i hi => by simpa using hok.mem i hi)
    refine (congrArg (HoldsL Z · _) ?_).mp this
    unfold sortP
    rw [List.map_map]
    exact List.map_congr_left fun i hi => getD_map hpair l nilP (hok.mem i hi)
end
end M3
end
-- part T9
section
set_option maxRecDepth 100000
namespace M3
open PySem PySem.Calls PySem.Spec PyProof.Rows PySem.W PySem.Builtin
open PySem.AutoSeq1 (wpAny_loadPart')
open PySem.MeetsSeq PySem.MeetsSeq2 PySem.MeetsSeq3 PySem.SeqRoads2 PySem.SeqAt
/-- the order of lists of texts -/
def ltS : List Str → List Str → Bool
  | [], [] => false
  | [], _ :: _ => true
  | _ :: _, [] => false
  | x :: xs, y :: ys => if x == y then ltS xs ys else decide (x.cps.toList < y.cps.toList)
theorem strs_len {vs : List Value} {l : List Str} (h : StrsAre vs l) : vs.length = l.length := by
  have := (HoldsL.ofStrs (Z := fun _ => none) h).length
  simpa [dS] using this
theorem strs_get {vs : List Value} {l : List Str} (h : StrsAre vs l) (i : Nat) (hi : i < vs.length) : ∃ t h', vs[i] = .str (l[i]'h') t := by
  have hl := strs_len h
  have h' : i < l.length := by omega
  obtain ⟨v, hv, t, e⟩ := (HoldsL.ofStrs (Z := fun _ => none) h).get (i := i) (d := .str l[i]) (by simp [dS, h'])
  refine ⟨t, h', ?_⟩
  rw [List.getElem?_eq_getElem hi] at hv
  cases hv
  exact e
set_option maxHeartbeats 4000000 in
theorem lt_loop (l b : Addr) (vs us : List Value) (xs ys : List Str) (n n2 : Nat) (hx : StrsAre vs xs) (hy : StrsAre us ys) (hsz : vs.length = us.length) (k : Nat) :
    ∀ i : Nat, vs.length - i = k → Meets (Builtin.«list.__eq__.loop» ⟨[.ref l, .ref b, rawInt i, rawInt 0], []⟩)
      (fun A R s => s.heap.get? l = some { cls := .type "list", dict := none, data := .seq vs.toArray n, slots := #[] } ∧ s.heap.get? b = some { cls := .type "list", dict := none, data := .seq us.toArray n2, slots := #[] } ∧
        R (.ok (.ret (.bool (ltS (xs.drop i) (ys.drop i))))) s) := by
  have lx := strs_len hx
  have ly := strs_len hy
  induction k with
  | zero =>
    intro i hk prog w A R s h
    obtain ⟨hp, g, d, tk, os⟩ := s; obtain ⟨hl, hb, h⟩ := h
    wp_walk using wpAny_loadPart' hl, wpAny_loadPart' hb
    have hi1 : vs.toArray[((i : Nat) : Int).toNat]? = none := by simp; omega
    have hi2 : us.toArray[((i : Nat) : Int).toNat]? = none := by simp; omega
    have hd1 : xs.drop i = [] := List.drop_eq_nil_of_le (by omega)
    have hd2 : ys.drop i = [] := List.drop_eq_nil_of_le (by omega)
    rw [hd1, hd2] at h
    rw [hi1, hi2]
    wp_walk using wpAny_loadPart' hl, wpAny_loadPart' hb
    show R (.ok (.ret (.bool (decide (vs.toArray.size < us.toArray.size))))) _
    have : decide (vs.toArray.size < us.toArray.size) = false := by simp; omega
    rw [this]
    exact h
  | succ k ih =>
    intro i hk prog w A R s h
    obtain ⟨hp, g, d, tk, os⟩ := s; obtain ⟨hl, hb, h⟩ := h
    wp_walk using wpAny_loadPart' hl, wpAny_loadPart' hb
    have hlt : i < vs.length := by omega
    have hlt2 : i < us.length := by omega
    obtain ⟨t, h1, e1⟩ := strs_get hx i hlt
    obtain ⟨u, h2, e2⟩ := strs_get hy i hlt2
    have hi1 : vs.toArray[((i : Nat) : Int).toNat]? = some (.str xs[i] t) := by simp [hlt, e1]
    have hi2 : us.toArray[((i : Nat) : Int).toNat]? = some (.str ys[i] u) := by simp [hlt2, e2]
    have hc : ((i : Int) + 1) = ((i + 1 : Nat) : Int) := by push_cast; rfl
    have hd1 : xs.drop i = xs[i] :: xs.drop (i + 1) := List.drop_eq_getElem_cons h1
    have hd2 : ys.drop i = ys[i] :: ys.drop (i + 1) := List.drop_eq_getElem_cons h2
    rw [hd1, hd2] at h
    unfold ltS at h
    rw [hi1, hi2]
    refine wpAny_bind (PyProof.Rows.eqBool_str ?_)
    cases hb' : (xs[i] == ys[i]) with
    | true =>
      rw [hb', if_pos rfl] at h
      wp_walk
      rw [hc]
      exact ⟨plainId_quiet plain_eq_loop _, codeAny_builtin entry_eq_loop (by
        rw [Around.under_plainId plain_eq_loop _]
        exact ih (i + 1) (by omega) prog w A R _ ⟨hl, hb, h⟩)⟩
    | false =>
      rw [hb', if_neg Bool.false_ne_true] at h
      wp_walk using wpAny_loadPart' hl, wpAny_loadPart' hb
      rw [hi1, hi2]
      dsimp only
      refine wpAny_bind (wpAny_mono (show wpAny (model prog w) _ (richCompare .Lt (.str xs[i] t) (.str ys[i] u)) (fun v s2 => v = .bool (decide (xs[i].cps.toList < ys[i].cps.toList)) ∧ s2 = ⟨hp, g, d, tk, os⟩) _ _ from PySem.P.lt_str ⟨rfl, rfl⟩) (fun v s2 hv => ?_) (fun _ _ q => q))
      obtain ⟨rfl, rfl⟩ := hv
      exact wpAny_pure h
theorem list_lt (l b : Addr) (vs us : List Value) (xs ys : List Str) (n n2 : Nat) (hx : StrsAre vs xs) (hy : StrsAre us ys) (hsz : vs.length = us.length) :
    Meets (Builtin.«list.__lt__» ⟨[.ref l, .ref b], []⟩)
      (fun A R s => s.heap.get? l = some { cls := .type "list", dict := none, data := .seq vs.toArray n, slots := #[] } ∧ s.heap.get? b = some { cls := .type "list", dict := none, data := .seq us.toArray n2, slots := #[] } ∧
        R (.ok (.ret (.bool (ltS xs ys)))) s) := by
  intro prog w A R s h
  obtain ⟨hp, g, d, tk, os⟩ := s; obtain ⟨hl, hb, h⟩ := h
  have f3 := AutoSeq1.sub_list_list
  wp_walk using wpAny_loadPart' hl, wpAny_loadPart' hb
  exact ⟨plainId_quiet plain_eq_loop _, codeAny_builtin entry_eq_loop (by
    rw [Around.under_plainId plain_eq_loop _]
    exact lt_loop l b vs us xs ys n n2 hx hy hsz _ 0 rfl prog w A R _ ⟨hl, hb, by simpa using h⟩)⟩
theorem keyLt_lists {prog : Program} {w : World} {A : Around} {E : Value → Shared → Prop} {s : Shared} {Q : Bool → Shared → Prop} {l b : Addr} {vs us : List Value} {xs ys : List Str} (hu : A.units < cLine) (hl : PL s.heap l vs.toArray) (hb : PL s.heap b us.toArray) (hx : StrsAre vs xs) (hy : StrsAre us ys) (hsz : vs.length = us.length) (h : Q (ltS xs ys) s) :
    wpAny (model prog w) A (keyLt' oneType' (.ref l) (.ref b)) Q E s := by
  obtain ⟨n, el⟩ := hl.isL
  obtain ⟨n2, eb⟩ := hb.isL
  rw [keyLt'_oneType, oneLt'_eq]
  simp only [if_true]
  refine wpAny_bind (wpAny_cRoomFor hu ?_)
  refine wpAny_bind (wpAny_callSpecialIfBound?_slot hl.list.typeIs PySem.F.slot_list_lt (call_meets PySem.F.slot_list_lt hl.list.typeIs PySem.F.entry_list_lt (PySem.F.args_list_lt_2 _ _) (list_lt l b vs us xs ys n n2 hx hy hsz) ⟨el, eb, ?_⟩))
  exact wpAny_truthy_bool h
/-- a sort by lt -/
def sortK {α : Type} (lt : α → α → Bool) (d : α) (l : List α) : List α := (kRun (fun i j => lt (l.getD i d) (l.getD j d)) (kas_sort l.length)).toList.map fun i => l.getD i d
theorem kRun_bind {α β : Type} {f : Nat → Nat → Bool} : ∀ (t : KasT α) (g : α → KasT β), kRun f (t.bind g) = kRun f (g (kRun f t))
  | .ret a, g => rfl
  | .ask i j k, g => kRun_bind (k (f i j)) g
theorem kRun2 (f : Nat → Nat → Bool) : (kRun f (kas_sort 2)).toList = if f 1 0 then [1, 0] else [0, 1] := by
  unfold kas_sort
  rw [kRun_bind]
  unfold kas_count
  rw [kRun_bind]
  have e : kRun f (kas_asc (List.toArray (List.range 2)) (2 - 1) 1) = if f 1 0 then 1 else 2 := by
    show kRun f (if f 1 0 = true then KasT.ret 1 else kas_asc (List.toArray (List.range 2)) 0 2) = _
    cases f 1 0 <;> rfl
  rw [e]
  cases f 1 0 <;> rfl
theorem sortK2 {α : Type} (lt : α → α → Bool) (d x y : α) : sortK lt d [x, y] = if lt y x then [y, x] else [x, y] := by
  unfold sortK
  show (kRun _ (kas_sort 2)).toList.map _ = _
  rw [kRun2]
  show List.map _ (if lt y x then [1, 0] else [0, 1]) = _
  cases lt y x <;> rfl
end M3
end
-- part T10
section
set_option maxRecDepth 100000
namespace M3
open PySem PySem.Calls PySem.Spec PyProof.Rows PySem.W PySem.Builtin
def ltStr (x y : Str) : Bool := decide (x.cps.toList < y.cps.toList)
def dSs (l : List (List Str)) : List D := l.map fun x => .list (dS x)
theorem dS_length (l : List Str) : (dS l).length = l.length := by simp [dS]
theorem dSs_length (l : List (List Str)) : (dSs l).length = l.length := by simp [dSs]
section
variable {G : Gc} {n : Nat} {sc : Scope} {ρ : Rho}
theorem CvL.sortedStrs {l : List Str} (h2 : 2 ≤ l.length) (h64 : l.length < 64) : CvL G n (.builtin "sorted") [.list (dS l)] (dS (sortK ltStr Str.empty l)) := by
  intro A Z s vs Q E rm z0 zin hh hq
  obtain ⟨v, rfl, a, us, rfl, hs, hu⟩ := one hh
  have hlen : us.length = l.length := by rw [hu.length]; simp [dS]
  have at_ : ∀ i, i < l.length → ∃ t, us.getD i Value.none = .str (l.getD i Str.empty) t := fun i hi => by
    have h1 := hu.at_ (i := i) (by rw [dS_length]; exact hi)
    rw [show (dS l).getD i .none = D.str (l.getD i Str.empty) from getD_map D.str l Str.empty hi] at h1
    exact h1
  refine sorted_by (κ := oneType') (lt := fun i j => ltStr (l.getD i Str.empty) (l.getD j Str.empty)) (hs.list zin) (by omega) (by omega) (fun s' keep Q' hQ' => ?_) (fun s' keep i j hi hj Q' hQ' => ?_) fun hok => ?_
  · refine kas_kind (T := .type "str") (by omega) (fun v hv => ?_) (by decide) (by decide) hQ'
    obtain ⟨i, hi, rfl⟩ := List.getElem_of_mem hv
    obtain ⟨t, e⟩ := at_ i (by omega)
    rw [List.getD_eq_getElem?_getD, List.getElem?_eq_getElem hi] at e
    have e' : us[i] = .str (l.getD i Str.empty) t := e
    rw [e']
    exact Looks.of_pure rfl
  · obtain ⟨t, e1⟩ := at_ i (by omega)
    obtain ⟨u, e2⟩ := at_ j (by omega)
    rw [e1, e2]
    exact kas_lt_str hQ'
  · rw [hlen] at hok ⊢
    refine sortedNew zin ?_ hq
    have := hu.pick (kRun (fun i j => ltStr (l.getD i Str.empty) (l.getD j Str.empty)) (kas_sort l.length)).toList (fun i hi => by rw [dS_length]; exact hok.mem i hi)
    refine (congrArg (HoldsL Z · _) ?_).mp this
    unfold sortK dS
    rw [List.map_map]
    exact List.map_congr_left fun i hi => getD_map D.str l Str.empty (hok.mem i hi)
theorem CvL.sortedLists {l : List (List Str)} {k : Nat} (h2 : 2 ≤ l.length) (h64 : l.length < 64) (hk : ∀ x ∈ l, x.length = k) : CvL G (n + 1) (.builtin "sorted") [.list (dSs l)] (dSs (sortK ltS [] l)) := by
  intro A Z s vs Q E rm z0 zin hh hq
  obtain ⟨v, rfl, a, us, rfl, hs, hu⟩ := one hh
  have hlen : us.length = l.length := by rw [hu.length]; simp [dSs]
  have at_ : ∀ i, i < l.length → ∃ b ws, us.getD i Value.none = .ref b ∧ SeqZ Z "list" b ws ∧ StrsAre ws (l.getD i []) ∧ ws.length = k := fun i hi => by
    have h1 := hu.at_ (i := i) (by rw [dSs_length]; exact hi)
    rw [show (dSs l).getD i .none = D.list (dS (l.getD i [])) from getD_map (fun x => D.list (dS x)) l [] hi] at h1
    obtain ⟨b, ws, e, hb, hw⟩ := h1
    have hm : l.getD i [] ∈ l := by rw [List.getD_eq_getElem?_getD, List.getElem?_eq_getElem hi]; exact List.getElem_mem hi
    exact ⟨b, ws, e, hb, hw.strs, by rw [hw.length, dS_length]; exact hk _ hm⟩
  refine sorted_by (κ := oneType') (lt := fun i j => ltS (l.getD i []) (l.getD j [])) (hs.list zin) (by omega) (by omega) (fun s' keep Q' hQ' => ?_) (fun s' keep i j hi hj Q' hQ' => ?_) fun hok => ?_
  · have zin' : Zin Z s'.heap := fun b o e => keep b o (zin b o e)
    refine kas_kind (T := .type "list") (by omega) (fun v hv => ?_) (by decide) (by decide) hQ'
    obtain ⟨i, hi, rfl⟩ := List.getElem_of_mem hv
    obtain ⟨b, ws, e, hb, _⟩ := at_ i (by omega)
    rw [List.getD_eq_getElem?_getD, List.getElem?_eq_getElem hi] at e
    have e' : us[i] = .ref b := e
    rw [e']
    obtain ⟨o, eo, hp, _⟩ := hb
    have : o.cls = .type "list" := hp.c
    rw [← this]
    exact (Looks.ld (zin' _ _ eo)).andThen .now
  · have zin' : Zin Z s'.heap := fun b o e => keep b o (zin b o e)
    obtain ⟨b1, w1, e1, hb1, hs1, hk1⟩ := at_ i (by omega)
    obtain ⟨b2, w2, e2, hb2, hs2, hk2⟩ := at_ j (by omega)
    rw [e1, e2]
    exact keyLt_lists (by have := rm.hu; show A.units + 1 + 1 < cLine; omega) (hb1.pl zin') (hb2.pl zin') hs1 hs2 (by omega) hQ'
  · rw [hlen] at hok ⊢
    refine sortedNew zin ?_ hq
    have := hu.pick (kRun (fun i j => ltS (l.getD i []) (l.getD j [])) (kas_sort l.length)).toList (fun i hi => by rw [dSs_length]; exact hok.mem i hi)
    refine (congrArg (HoldsL Z · _) ?_).mp this
    unfold sortK dSs
    rw [List.map_map]
    exact List.map_congr_left fun i hi => getD_map (fun x => D.list (dS x)) l [] (hok.mem i hi)
/-- int(str(i)) -/
theorem Cv.intNum {i : Int} (h0 : 0 ≤ i) (h1 : i < 10 ^ 10) : Cv G n (.type "int") [.str (Str.ofString (toString i))] (.int i) := by
  intro A Z s vs Q E rm z0 zin hh hq
  obtain ⟨v, rfl, t, rfl⟩ := one hh
  exact PySem.W.KIN.call_num h0 h1 (hq _ Z _ (PStep.tok zin _) ⟨_, rfl⟩)
/-- l.index(k) -/
theorem Cv.index {l : List Int} {k : Int} (hl : PyData.layable0 (.list (l.map .int)) = true) (hk : k ∈ l) : Cv G n (.builtin "list.index") [.list (dI l), .int k] (.int (l.idxOf k : Nat)) := by
  intro A Z s vs Q E rm z0 zin hh hq
  obtain ⟨v, w, rfl, ⟨a, us, rfl, hs, hu⟩, t, rfl⟩ := two hh
  exact PyProof.Rows.index_list_ints (hs.list zin) hu.ints hl hk (hq _ Z _ (PStep.tok zin _) ⟨_, rfl⟩)
end
end M3
end
-- part T11
section
set_option maxRecDepth 100000
namespace M3
open PySem PySem.Calls PySem.Spec PyProof.Rows PySem.W PySem.Builtin
section
variable {G : Gc} {n : Nat} {sc : Scope} {ρ : Rho}
/-- len(x), where x's class has a __len__ of its own -/
theorem Cv.lenInst {C f : Addr} {ns : List Str} {l : List D} {k : Int} (hs : findIn G.K (.ref C) "__len__" = some (some (.ref f))) (hf : isFn G.K (.ref f) = true) (h : Fn G n f [.inst C ns l] (.int k)) (h0 : 0 ≤ k) (h1 : k < 2 ^ 62) : Cv G (n + 1) (.builtin "len") [.inst C ns l] (.int k) := by
  intro A Z s vs Q E rm z0 zin hh hq
  obtain ⟨v, rfl, hv⟩ := one hh
  obtain ⟨x, us, rfl, hi, hu⟩ := id hv
  obtain ⟨dx, es, nn, I, _⟩ := hi.inst zin
  have X := (z0.bs zin).k
  have rm' : Room n A.in1 := ⟨rm.hh, by have := rm.hd; show A.depth + 5 * n < recursionLimit; omega, by have := rm.hu; show A.units + 1 + 50 * n < cLine; omega⟩
  refine Calls.call_function_entry kind_len plain_len entry_len (args_len1 _) ?_
  unfold Builtin.«len»
  refine wpAny_bind (m := oneArg "len" _) (wpAny_pure ?_)
  refine wpAny_bind (m := callSpecial? (.ref x) (Str.ofString "__len__")) (special_fn X I hs (beq_iff_eq.mp hf) (h A.in1 Z s [.ref x] _ _ rm' z0 zin (HoldsL.one hv) fun r Z' s' st hr => ?_))
  obtain ⟨t, rfl⟩ := hr
  refine wpAny_bind (wpAny_holding (wpAny_pure ?_))
  refine wpAny_bind (wpAny_letGo ?_)
  show wpAny _ _ (if k < 0 then _ else _) _ _ _
  rw [if_neg (by omega)]
  show wpAny _ _ (if k ≥ 2 ^ 63 then _ else _) _ _ _
  rw [if_neg (by omega)]
  exact wpAny_bind (wpAny_mkInt (wpAny_pure ⟨_, rfl, hq _ Z' _ (st.trans (PStep.tok st.zin _)) ⟨_, rfl⟩⟩))
/-- a frame whose names stand for frozen data alone -/
def allFz (ρ : Rho) : Prop := ∀ x sl, ρ.lookup x = some sl → ∃ d, sl = .fz d
theorem Vars.noLists {env g Z h pl} (V : Vars env g Z ρ h pl) (hf : allFz ρ) : ∀ x, pl x = none := fun x => by
  cases e : ρ.lookup x with
  | none => exact V.out x e
  | some sl =>
    obtain ⟨d, rfl⟩ := hf x sl e
    obtain ⟨v, _, hs⟩ := V.at_ x _ e
    exact hs.1
/-- ... seen from the world where a list at a stands frozen -/
theorem Sees.plusAt {env g Z} {s : Shared} {a : Addr} {o : Obj} {vs : List Value} {L : List D} (S : Sees G env g Z ρ s.heap) (hf : allFz ρ) (hz : Z a = none) (eo : s.heap.get? a = some o) (hl : PL s.heap a vs.toArray) (hh : HoldsL Z L vs) : Sees (G.plus a L) env g (Z.add a o) ρ s.heap := by
  obtain ⟨o', eo', hc, k, hd⟩ := id hl
  rw [eo] at eo'; cases eo'
  have zle := Zm.le_add (o := o) hz
  have hL : Holds (Z.add a o) (.list L) (.ref a) := ⟨a, vs, rfl, ⟨o, Zm.add_self .., hc, k, hd⟩, HoldsL.mono zle hh⟩
  have Z0 : (G.plus a L).Z0 (Z.add a o) := by
    obtain ⟨⟨h₀, b, kk⟩, q⟩ := S.z0.mono zle
    exact ⟨⟨h₀, ⟨b.k, b.t⟩, kk⟩, q, hL⟩
  refine ⟨Z0, S.zin.add eo, S.ek, S.eg, S.eb, S.ns, ?_, fun y hk => ?_, S.cinj, ?_⟩
  · obtain ⟨m, hm⟩ := S.ns
    rw [Zm.add_other _ _ (Ns.ne_list hm hl)]; exact S.nz
  · obtain ⟨c, w, ec, hw, hzc⟩ := S.cells y hk
    exact ⟨c, w, ec, hw, by rw [Zm.add_other _ _ (IsCell.ne_list hw hl)]; exact hzc⟩
  · obtain ⟨pl, V⟩ := S.vars
    refine ⟨pl, fun y sl ey => ?_, V.out, V.inj, V.og⟩
    obtain ⟨v, hv, hs⟩ := V.at_ y sl ey
    obtain ⟨d, rfl⟩ := hf y sl ey
    exact ⟨v, hv, hs.1, Holds.mono zle hs.2⟩
/-- ... and after that list has been turned -/
theorem Sees.turned {env g Z Z'} {s s' : Shared} {a : Addr} {vs : List Value} (S : Sees G env g Z ρ s.heap) (hf : allFz ρ) (hl : PL s.heap a vs.toArray) (u : UStep (fun b => b = a) Z s Z' s') : Sees G env g Z' ρ s'.heap :=
  S.ustep u (fun m hm q => Ns.ne_list hm hl q) (fun c v hc _ q => IsCell.ne_list hc hl q) fun pl V x b vs' _ e => by
    rw [V.noLists hf x] at e; cases e
end
end M3
end
-- part T12
section
set_option maxRecDepth 100000
namespace M3
open PySem PySem.Calls PySem.Spec PyProof.Rows PySem.W PySem.Builtin
section
variable {G : Gc} {n : Nat} {sc : Scope} {ρ : Rho}
theorem allFz.of (h : (ρ.all fun p => match p.2 with | .fz _ => true | _ => false) = true) : allFz ρ := by
  induction ρ with
  | nil => intro x sl e; cases e
  | cons p ρ ih =>
    intro x sl e
    rw [List.all_cons, Bool.and_eq_true] at h
    obtain ⟨y, t⟩ := p
    rw [List.lookup_cons] at e
    cases q : x == y with
    | true =>
      rw [q] at e; cases e
      cases sl with
      | fz d => exact ⟨d, rfl⟩
      | own l => cases h.1
      | hdr c l => cases h.1
    | false => rw [q] at e; exact ih h.2 x sl e
/-- head.setdefault(e1, e2), head's list standing outside the frame -/
theorem setNum {A : Around} {E : Value → Shared → Prop} {env g Z} {s : Shared} {x name nm y : Str} {px apos pos : Pos} {e1 e2 : Expr} {C f a : Addr} {l : List (Str × Str)} {r : Str × List (Str × Str)} {vs : List Value} {Q : Value → Shared → Prop}
    (rm : Room n A) (he : env.scope = sc) (S : Sees G env g Z ρ s.heap) (hf : allFz ρ) (ok : okName x = true) (hx : ρ.lookup x = some (.fz (.inst C hN [.addr a]))) (hz : Z a = none) (hp : PL s.heap a vs.toArray) (hh : HoldsL Z (l.map hpair) vs) (ht : 0 < s.toks)
    (sh : MethShape (.Name x px) name apos [e1, e2] pos) (hm : methOk G.K C name f = true) (hn : dAt hN [D.addr a] name = none) (hk : Kpr G (.ref f)) (h1 : EvT G n sc ρ e1 (.str nm)) (h2 : Ev (G.plus a (l.map hpair)) n sc ρ e2 (.str y)) (hs : noStar [e1, e2] = true) (hse : ∀ env, starEach [e1, e2] env = [(false, eval e1 env), (false, eval e2 env)]) (hset : SetsHdr G n C f nm y l r)
    (h : ∀ w Z' s' vs', UStep (fun b => b = a) Z s Z' s' → Z' a = none → PL s'.heap a vs'.toArray → HoldsL Z' (r.2.map hpair) vs' → Holds Z' (.str r.1) w → Sees G env g Z' ρ s'.heap → Q w s') :
    wpAny (model G.prog G.w) A (eval (.Call (.Attribute (.Name x px) name apos) [e1, e2] [] pos) env) Q E s := by
  obtain ⟨k1, k2⟩ := Bool.and_eq_true_iff.mp ok
  obtain ⟨pl, e⟩ := sh env
  refine methodCall_KW (pl := pl) (wpAny_Name (S.load hx (fun v o hv hsl => ?_) (by simpa using k2)) (by simpa using k1)) e
  refine (Mt.inst (P := fun f' fs => f' = .ref f ∧ fs = [.inst C hN [.addr a]]) hm hn rfl hk ⟨rfl, rfl⟩ : Mt G n name (.inst C hN [.addr a]) _) A Z s _ pl _ E rm S.z0 S.zin hsl.2 fun f' fs fds hk' hP hfs => ?_
  obtain ⟨rfl, rfl⟩ := hP
  obtain ⟨w0, rfl, x1, us1, rfl, hi1, hus1⟩ := one hfs
  obtain ⟨u1, rfl, eu1⟩ := one hus1
  have : u1 = .ref a := eu1
  subst this
  have hpp := back_plain (pos := pos) (star_plain [e1, e2] hs env)
  refine callWith_of (P := fun h => G.Bs h) (by rw [hpp]; rfl) hk (evalArgs_any hpp ?_)
  rw [hse]
  refine spliced_cons (h1 A env g Z s _ E rm he S ht fun v1 Z1 s1 st1 hv1 => ?_)
  have S1 := S.step st1
  have p1 := IsList.keeps hp st1.keep
  obtain ⟨o, eo, hc, k, hd⟩ := id p1
  obtain ⟨o0, eo0⟩ := IsList.get hp
  have hz1 := st1.zn a o0 eo0 hz
  have hh1 := HoldsL.mono st1.z hh
  refine spliced_cons (h2 A env g _ s1 _ E rm he (S1.plusAt hf hz1 eo p1 hh1) fun v2 Z2' s2 st2' hv2 => ?_)
  have st2 := st2'.unfreeze hz1
  have hl2 := st2'.listAt hc.c
  have hv2' := Holds.del hl2 rfl hv2
  have S2 := S1.step st2
  refine spliced_none (env := env) ?_
  refine ⟨S2.z0.bs st2.zin, ?_⟩
  have st := st1.trans st2
  refine hset rm S2.z0 st2.zin (hi1.mono st.z) (st.zn a o0 eo0 hz) (IsList.keeps hp st.keep) (HoldsL.mono st.z hh) (Holds.mono st2.z hv1) hv2' fun w Z3 s3 vs3 u hz3 hp3 hh3 hw => ?_
  refine h w Z3 s3 vs3 ((st.u (X := fun b => b = a)).trans u fun b hb => .inl hb) hz3 hp3 hh3 hw (S2.turned hf (IsList.keeps hp st.keep) u)
theorem callOut1 {A : Around} {E : Value → Shared → Prop} {env g Z} {s : Shared} {nm : Str} {f : Value} {e : Expr} {np pos : Pos} {Q : Value → Shared → Prop} (c : Callee G sc nm f) (hk : Kpr G f) (S : Sees G env g Z ρ s.heap) (he : env.scope = sc) (hs : noStar [e] = true) (hse : ∀ env, starEach [e] env = [(false, eval e env)])
    (h : wpAny (model G.prog G.w) A (eval e env) (fun v s' => G.Bs s'.heap ∧ wpAny (model G.prog G.w) A (call f [v]) Q E s') E s) : wpAny (model G.prog G.w) A (eval (.Call (.Name nm np) [e] [] pos) env) Q E s := by
  refine wpAny_Call_NameR (c.eval S he ?_)
  have hp := back_plain (pos := pos) (star_plain [e] hs env)
  refine callWith_of (P := fun h => G.Bs h) (by rw [hp]; rfl) hk (evalArgs_any hp ?_)
  rw [hse]
  exact spliced_cons (wpAny_mono h (fun v s' h => spliced_none (env := env) h) fun _ _ q => q)
/-- head = Headers([]), the list outside the frame -/
theorem newHdrOut {A : Around} {E : Value → Shared → Prop} {env g Zg Z} {s : Shared} {x nm : Str} {C : Addr} {px np lp cp pos : Pos} {Q : Flow → Shared → Prop} (rm : Room n A) (he : env.scope = sc) (S : SeesF G env g Zg Z ρ s.heap) (h : MakesHdrT G n C) (c : Callee G sc nm (.ref C)) (hk : Kpr G (.ref C)) (hx : storable sc x = true) (hs : ∀ env : Env, env.scope = sc → swapsWith (.Call (.Name nm np) [.List [] lp] [] cp) (some (.Name x px)) pos.line env = pure false)
    (hq : ∀ a Z' s', (∃ h' tk, s' = { s with heap := h', toks := tk }) → 0 < s'.toks → SeesF G env g Zg Z' (ρ.set x (.fz (.inst C hN [.addr a]))) s'.heap → g.get? a = none → Z' a = none → PL s'.heap a ([] : List Value).toArray → Q .next s') :
    wpAny (model G.prog G.w) A (exec (.Assign [.Name x px] (.Call (.Name nm np) [.List [] lp] [] cp) pos) env) Q E s := by
  refine wpAny_Assign_Name ?_ (hs env he)
  refine wpAny_Call_NameR (c.eval S.sees he ?_)
  have hp := back_plain (pos := cp) (star_plain (es := [.List [] lp]) rfl env)
  refine callWith_of (P := fun h => G.Bs h) (by rw [hp]; rfl) hk (evalArgs_any hp ?_)
  rw [show starEach [.List [] lp] env = (false, eval (.List [] lp) env) :: [] from rfl]
  refine spliced_cons ((EvL.disp Evs.nil (by decide) : EvL G n sc ρ (.List [] lp) []) A env g Z s _ E rm he S.sees fun a vs Z1 s1 st1 hn hz hl1 hh => ?_)
  refine spliced_none (env := env) ?_
  have evs : vs = [] := hh
  subst evs
  have S1 := S.step st1
  refine ⟨S1.sees.z0.bs st1.zin, ?_⟩
  obtain ⟨o, eo, hpl, k, hdat⟩ := id hl1
  have zle := Zm.le_add (o := o) hz
  have hL : Holds (Z1.add a o) (.list []) (.ref a) := ⟨a, [], rfl, ⟨o, Zm.add_self .., hpl, k, hdat⟩, rfl⟩
  have Z0 : (G.plus a []).Z0 (Z1.add a o) := by
    obtain ⟨⟨h₀, b, kk⟩, qq⟩ := S1.sees.z0.mono zle
    exact ⟨⟨h₀, ⟨b.k, b.t⟩, kk⟩, qq, hL⟩
  refine h a A _ s1 [.ref a] _ E rm Z0 (S1.sees.zin.add eo) (HoldsL.one rfl) fun v Z2' s2 st2' ht2 hv => ?_
  have hv' : Holds (Z2'.del a) (.inst C hN [.addr a]) v := Holds.del (st2'.listAt hpl.c) rfl hv
  have st2 := st2'.unfreeze hz
  have S2 := S1.step st2
  have hz2 : (Z2'.del a) a = none := Zm.del_self ..
  have hl2 := IsList.keeps hl1 st2.keep
  refine wpAny_toks (SeesF.store (o := none) (sl := .fz (.inst C hN [.addr a])) S2 (storable.kind hx he) ⟨rfl, hv'⟩ (fun _ _ _ _ _ _ e => nomatch e) (fun _ e => nomatch e) fun h' tk S3 hsb htk => ?_)
  have hl3 : PL h' a ([] : List Value).toArray := by
    obtain ⟨b, hb, hb2⟩ := hsb
    have : a ≠ b := by
      rintro rfl
      rcases hb2 with rfl | ⟨hk, hc⟩
      · obtain ⟨m, hm⟩ := S2.sees.ns
        exact Ns.ne_list hm hl2 rfl
      · obtain ⟨c, w, ec, hw, _⟩ := S2.sees.cells _ (.inl hk)
        rw [hc] at ec; cases ec
        exact IsCell.ne_list hw hl2 rfl
    obtain ⟨o2, e2, r⟩ := id hl2
    exact ⟨o2, (hb.2 a this).trans e2, r⟩
  have ga : g.get? a = none := by
    cases e : g.get? a with
    | none => rfl
    | some o => rw [S.keep _ _ e] at hn; cases hn
  refine hq a _ _ (st_tr (st_tr st1.st st2.st) ⟨h', tk, rfl⟩) (Nat.lt_of_lt_of_le ht2 htk) S3 ga hz2 hl3
end
end M3
end
-- part P1
section
namespace M3
open PySem
/-- what Whitespace.__init__ counts -/
structure WS where
  count : List Int
  b : Int
  n : Int
  nt : Int
def wsStep (w : WS) (c : Nat) : WS :=
  if c = 32 then { w with b := w.b + 1, n := w.n + 1 }
  else
    let count := if (w.count.length : Int) ≤ w.b then w.count ++ List.replicate (w.b - w.count.length + 1).toNat 0 else w.count
    { count := count.set w.b.toNat (count.getD w.b.toNat 0 + 1), b := 0, n := w.n + 1, nt := w.nt + 1 }
def wsRun (l : List Nat) : WS := l.foldl wsStep ⟨[], 0, 0, 0⟩
structure WsOk (k : Nat) (w : WS) : Prop where
  b0 : 0 ≤ w.b
  bk : w.b ≤ k
  ck : w.count.length ≤ k
theorem WsOk.step {k : Nat} {w : WS} (h : WsOk k w) (c : Nat) : WsOk (k + 1) (wsStep w c) := by
  obtain ⟨h1, h2, h3⟩ := h
  unfold wsStep
  split
  · exact ⟨by dsimp only; omega, by dsimp only; omega, by dsimp only; omega⟩
  · refine ⟨by dsimp only; omega, by dsimp only; omega, ?_⟩
    dsimp only
    rw [List.length_set]
    split
    · simp; omega
    · omega
theorem WsOk.run : ∀ (l : List Nat) {k : Nat} {w : WS}, WsOk k w → WsOk (k + l.length) (l.foldl wsStep w)
  | [], _, _, h => h
  | c :: l, k, w, h => by
    have := WsOk.run l (h.step c)
    rw [List.length_cons, show k + (l.length + 1) = k + 1 + l.length by omega]; exact this
theorem WsOk.start : WsOk 0 ⟨[], 0, 0, 0⟩ := ⟨by decide, by decide, by decide⟩
end M3
end
-- part R1
section
set_option maxRecDepth 100000
namespace M3
open PySem PySem.Calls PySem.Spec PyProof.Rows PySem.W PySem.Builtin PySem.Builtin.Str PySem.F
theorem slot_sub : PySem.Slot "re.Pattern" "sub" "re.Pattern.sub" :=
  .of (owner := "re.Pattern") (n := "sub") (by rw [typeLookup_type, builtinLookup_eq_fast]; kernel_rfl) (by decide +kernel) (by decide +kernel) (by decide +kernel)
    (by first | exact .inl (by decide +kernel) | exact .inr (by decide +kernel)) (by rw [isSubtype_type]; kernel_rfl)
theorem slot_search : PySem.Slot "re.Pattern" "search" "re.Pattern.search" :=
  .of (owner := "re.Pattern") (n := "search") (by rw [typeLookup_type, builtinLookup_eq_fast]; kernel_rfl) (by decide +kernel) (by decide +kernel) (by decide +kernel)
    (by first | exact .inl (by decide +kernel) | exact .inr (by decide +kernel)) (by rw [isSubtype_type]; kernel_rfl)
theorem type_sub : typeOf (.builtin "re.Pattern.sub") = pure (.type "method_descriptor") := by show builtinType _ = _; rw [builtinType_eq_fast]; kernel_rfl
theorem type_search : typeOf (.builtin "re.Pattern.search") = pure (.type "method_descriptor") := by show builtinType _ = _; rw [builtinType_eq_fast]; kernel_rfl
theorem entry_sub : entryFor table "re.Pattern.sub" = some Builtin.«re.Pattern.sub» := entryFor_of_tree (by kernel_rfl)
theorem entry_search : entryFor table "re.Pattern.search" = some Builtin.«re.Pattern.search» := entryFor_of_tree (by kernel_rfl)
theorem entry_subloop : entryFor table "re.Pattern.sub.loop" = some Builtin.«re.Pattern.sub.loop» := entryFor_of_tree (by kernel_rfl)
theorem plain_subloop : plainId "re.Pattern.sub.loop" = true := by decide +kernel
theorem args_sub (a b c : Value) : argsOk "re.Pattern.sub" ⟨[a, b, c], []⟩ := by
  unfold argsOk; kernel_rfl
theorem args_search (a b : Value) : argsOk "re.Pattern.search" ⟨[a, b], []⟩ := by
  unfold argsOk; kernel_rfl
theorem plainAttrs_re : PlainAttrs "re.Pattern" := by
  exact ⟨⟨"object.__getattribute__", by rw [typeLookup_type, builtinLookup_eq_fast]; kernel_rfl, by decide +kernel⟩, by rw [typeLookup_type, builtinLookup_eq_fast]; kernel_rfl⟩
end M3
end
-- part R2
section
set_option maxRecDepth 100000
namespace M3
open PySem PySem.Sre
theorem runFor_done {m : M} (h : m.outcome.isSome = true) : ∀ n, m.runFor n = m
  | 0 => rfl
  | n + 1 => by unfold M.runFor; rw [if_pos h]
theorem runFor_step {m : M} (h : m.outcome = none) (n : Nat) : m.runFor (n + 1) = m.step.runFor n := by
  rw [M.runFor, if_neg (by rw [h]; decide)]
theorem runFor_add (a : Nat) : ∀ (b : Nat) (m : M), m.runFor (a + b) = (m.runFor a).runFor b := by
  induction a with
  | zero => intro b m; rw [Nat.zero_add]; rfl
  | succ a ih =>
    intro b m
    by_cases h : m.outcome.isSome = true
    · rw [runFor_done h, runFor_done h, runFor_done h]
    · have h' : m.outcome = none := by simpa using h
      rw [show a + 1 + b = (a + b) + 1 by omega, runFor_step h', runFor_step h', ih]
/-- the machine ends within n steps -/
def Ends (n : Nat) (m m' : M) : Prop := m.runFor n = m' ∧ m'.outcome.isSome = true
theorem Ends.four {n : Nat} {m m' : M} (h : Ends n m m') : ((m.runFor 4).outcome.isSome = true ∧ m.runFor 4 = m') ∨ (4 < n ∧ Ends (n - 4) (m.runFor 4) m') := by
  obtain ⟨h1, h2⟩ := h
  by_cases hn : n ≤ 4
  · left
    have : m.runFor 4 = m' := by
      rw [show 4 = n + (4 - n) by omega, runFor_add, h1, runFor_done h2]
    exact ⟨by rw [this]; exact h2, this⟩
  · right
    refine ⟨by omega, ?_, h2⟩
    rw [← runFor_add, show 4 + (n - 4) = n by omega, h1]
section
variable {prog : Program} {w : World} {A : Around} {E : Value → Shared → Prop} {s : Shared}
open PySem.Builtin.Re
theorem wp_drive {m' : M} {Q : M → Shared → Prop} (hq : Q m' s) : ∀ (turns : Nat) (n : Nat) (m : M), n ≤ 4 * turns → 0 < turns → Ends n m m' → wpAny (model prog w) A (reDrive turns m) Q E s
  | 0, n, m, _, h, _ => by omega
  | turns + 1, n, m, hn, _, h => by
    unfold reDrive
    show wpAny _ _ (if (m.runFor 4).outcome.isSome = true then pure (m.runFor 4) else (do rule "sre.turn"; reDrive turns (m.runFor 4))) _ _ _
    rcases h.four with ⟨h1, h2⟩ | ⟨h1, h2⟩
    · rw [if_pos h1, h2]; exact wpAny_pure hq
    · by_cases hd : (m.runFor 4).outcome.isSome = true
      · rw [if_pos hd]
        have : m.runFor 4 = m' := by rw [← h2.1, runFor_done hd]
        rw [this]; exact wpAny_pure hq
      · rw [if_neg hd]
        exact wpAny_bind (wpAny_rule (wp_drive hq turns (n - 4) _ (by omega) (by omega) h2))
theorem wp_rules {f : Nat → Bool} {Q : PUnit → Shared → Prop} (hq : Q PUnit.unit s) : ∀ l : List Nat, wpAny (model prog w) A (forIn (m := Sem) l PUnit.unit fun i _ => if f i = true then rule (Sre.names.getD i "") >>= fun _ => pure (ForInStep.yield PUnit.unit) else pure (ForInStep.yield PUnit.unit)) Q E s
  | [] => wpAny_pure hq
  | i :: l => by
    rw [List.forIn_cons]
    refine wpAny_bind ?_
    by_cases h : f i = true
    · rw [if_pos h]
      exact wpAny_bind (wpAny_rule (wpAny_pure (wp_rules hq l)))
    · rw [if_neg h]
      exact wpAny_pure (wp_rules hq l)
theorem wp_toEnd {m m' : M} {n : Nat} {o : Sre.Outcome} {r : Option M} {Q : Option M → Shared → Prop} (h : Ends n m m') (hn : n ≤ 1000000000) (ho : m'.outcome = some o) (hr : (o = .matched ∧ r = some m') ∨ (o = .failed ∧ r = none)) (hq : Q r s) :
    wpAny (model prog w) A (reRunToEnd m) Q E s := by
  unfold reRunToEnd
  refine wpAny_bind (wp_drive ?_ _ n m (by omega) (by decide) h)
  refine wpAny_bind (wp_rules ?_ _)
  rw [ho]
  rcases hr with ⟨rfl, rfl⟩ | ⟨rfl, rfl⟩
  · exact wpAny_pure hq
  · exact wpAny_pure hq
end
end M3
end
-- part R3
section
set_option maxRecDepth 100000
namespace M3
open PySem PySem.Sre
theorem step_exec {m : M} (ho : m.outcome = none) (ha : m.answer = none) (hp : m.pc < m.code.size) : m.step = m.exec := by
  unfold M.step
  rw [if_neg (by rw [ho]; decide), ha]
  exact if_pos hp
theorem exec_lit {m : M} (hop : ops[m.word 0]? = some .LITERAL) : m.exec = (if m.pos ≥ m.lim then ({ m with seen := m.seen.add (m.word 0) } : M).say false else if (m.text.getD m.pos 0 == m.word 1) = true then { m with seen := m.seen.add (m.word 0), pc := m.pc + 2, pos := m.pos + 1 } else ({ m with seen := m.seen.add (m.word 0) } : M).say false) := by
  have hop' : ops[m.code.getD m.pc 0]? = some .LITERAL := hop
  unfold M.exec
  rw [hop]
  dsimp only
  by_cases h : m.pos ≥ m.lim
  · rw [if_pos h, if_pos h]
  · rw [if_neg h, if_neg h]
    unfold accepts itemWidth
    rw [hop']
    show (match (Except.ok (m.text.getD m.pos 0 == m.word 1, m.seen.add (m.word 0)) : Except String (Bool × Seen)) with | .error why => _ | .ok (false, seen) => _ | .ok (true, seen) => _) = _
    cases hb : (m.text.getD m.pos 0 == m.word 1)
    · rfl
    · rfl
theorem Ends.step {n : Nat} {m m' : M} (h : m.outcome = none) (e : Ends n m.step m') : Ends (n + 1) m m' := ⟨by rw [runFor_step h]; exact e.1, e.2⟩
theorem Ends.over {m : M} (h : m.outcome.isSome = true) : Ends 0 m m := ⟨rfl, h⟩
def code1 : Array Nat := #[14, 4, 0, 1, 1, 6, 1, 16, 46, 1]
def nf (pc s : Nat) (first : Bool) : Sre.Frame := { wait := .nextStart, pc := pc, pos := s, outermost := first }
def st (code text : Array Nat) (lim s pc pos : Nat) (frames : List Sre.Frame) (weight : Nat) (answer : Option Bool) (first : Bool) (handed : Nat) (seen : Seen) : M :=
  { code, text, lim, start := s, lastStart := lim, pc, pos, handed, outermost := first, marks := #[], frames, weight, answer, seen }
def A1 (text : Array Nat) (lim s : Nat) (first : Bool) (seen : Seen) : M := st code1 text lim s 5 s [nf 5 s first] 1 none first s seen
theorem a1_at {text lim s first seen} : (A1 text lim s first seen).step = (if (s == 0 || text.getD (s - 1) 0 == 10) = true then st code1 text lim s 7 s [nf 5 s first] 1 none first s ((seen.add 6).add 44) else st code1 text lim s 5 s [nf 5 s first] 1 (some false) first s ((seen.add 6).add 44)) := rfl
theorem a1_next {text lim s first seen} : (st code1 text lim s 5 s [nf 5 s first] 1 (some false) first s seen).step = (if s < lim then A1 text lim (s + 1) false seen else st code1 text lim s 5 s [] 0 (some false) first s seen) := by
  by_cases h : s < lim
  · rw [if_pos h]
    show (if s < lim then _ else _) = _
    rw [if_pos h]; rfl
  · rw [if_neg h]
    show (if s < lim then _ else _) = _
    rw [if_neg h]; rfl
theorem over_no {code text lim s pc pos first handed seen} : (st code text lim s pc pos [] 0 (some false) first handed seen).step = { st code text lim s pc pos [] 0 (some false) first handed seen with outcome := some .failed } := rfl
theorem over_yes {code text lim s pc pos first handed seen} : (st code text lim s pc pos [] 0 (some true) first handed seen).step = { st code text lim s pc pos [] 0 (some true) first handed seen with outcome := some .matched } := rfl
theorem a1_lit {text lim s first seen} (h : s < lim) (hd : text.getD s 0 = 46) : (st code1 text lim s 7 s [nf 5 s first] 1 none first s seen).step = st code1 text lim s 9 (s + 1) [nf 5 s first] 1 none first s (seen.add 16) := by
  rw [step_exec rfl rfl (show 7 < 10 by decide), exec_lit rfl, if_neg (by show ¬ s ≥ lim; omega), if_pos (by show (text.getD s 0 == 46) = true; rw [hd]; rfl)]
  rfl
theorem a1_succ {text lim s first seen} : (st code1 text lim s 9 (s + 1) [nf 5 s first] 1 none first s seen).step = st code1 text lim s 9 (s + 1) [nf 5 s first] 1 (some true) first (s + 1) (seen.add 1) := by
  cases first <;> rfl
theorem a1_yes {text lim s first seen} : (st code1 text lim s 9 (s + 1) [nf 5 s first] 1 (some true) first (s + 1) seen).step = st code1 text lim s 5 s [] 0 (some true) first (s + 1) seen := rfl
theorem a1_find {text lim} : ∀ (k s : Nat) (first : Bool) (seen : Seen), s + k < lim → (∀ i, s ≤ i → i < s + k → (i == 0 || text.getD (i - 1) 0 == 10) = false) → (s + k == 0 || text.getD (s + k - 1) 0 == 10) = true → text.getD (s + k) 0 = 46 →
    ∃ m', Ends (2 * k + 5) (A1 text lim s first seen) m' ∧ m'.outcome = some .matched ∧ m'.start = s + k ∧ m'.handed = s + k + 1
  | 0, s, first, seen, hl, no, yes, dot => by
    rw [Nat.add_zero] at hl yes dot
    refine ⟨{ st code1 text lim s 5 s [] 0 (some true) first (s + 1) ((((seen.add 6).add 44).add 16).add 1) with outcome := some .matched }, ?_, rfl, rfl, rfl⟩
    refine Ends.step rfl ?_
    rw [a1_at, if_pos yes]
    refine Ends.step rfl ?_
    rw [a1_lit hl dot]
    refine Ends.step rfl ?_
    rw [a1_succ]
    refine Ends.step rfl ?_
    rw [a1_yes]
    refine Ends.step rfl ?_
    rw [over_yes]
    exact Ends.over rfl
  | k + 1, s, first, seen, hl, no, yes, dot => by
    obtain ⟨m', h1, h2, h3, h4⟩ := a1_find (text := text) (lim := lim) k (s + 1) false ((seen.add 6).add 44) (by omega) (fun i h1 h2 => no i (by omega) (by omega)) (by rw [show s + 1 + k = s + (k + 1) by omega]; exact yes) (by rw [show s + 1 + k = s + (k + 1) by omega]; exact dot)
    refine ⟨m', ?_, h2, by rw [h3]; omega, by rw [h4]; omega⟩
    rw [show 2 * (k + 1) + 5 = (2 * k + 5) + 1 + 1 by omega]
    refine Ends.step rfl ?_
    rw [a1_at, if_neg (by rw [no s (Nat.le_refl _) (by omega)]; decide)]
    refine Ends.step rfl ?_
    rw [a1_next, if_pos (show s < lim by omega)]
    exact h1
theorem a1_none {text lim} : ∀ (k s : Nat) (first : Bool) (seen : Seen), s + k = lim → (∀ i, s ≤ i → i ≤ lim → (i == 0 || text.getD (i - 1) 0 == 10) = false) →
    ∃ m', Ends (2 * k + 3) (A1 text lim s first seen) m' ∧ m'.outcome = some .failed
  | 0, s, first, seen, hl, no => by
    refine ⟨{ st code1 text lim s 5 s [] 0 (some false) first s ((seen.add 6).add 44) with outcome := some .failed }, ?_, rfl⟩
    refine Ends.step rfl ?_
    rw [a1_at, if_neg (by rw [no s (Nat.le_refl _) (by omega)]; decide)]
    refine Ends.step rfl ?_
    rw [a1_next, if_neg (show ¬ s < lim by omega)]
    refine Ends.step rfl ?_
    rw [over_no]
    exact Ends.over rfl
  | k + 1, s, first, seen, hl, no => by
    obtain ⟨m', h1, h2⟩ := a1_none (text := text) (lim := lim) k (s + 1) false ((seen.add 6).add 44) (by omega) (fun i h1 h2 => no i (by omega) (by omega))
    refine ⟨m', ?_, h2⟩
    rw [show 2 * (k + 1) + 3 = (2 * k + 3) + 1 + 1 by omega]
    refine Ends.step rfl ?_
    rw [a1_at, if_neg (by rw [no s (Nat.le_refl _) (by omega)]; decide)]
    refine Ends.step rfl ?_
    rw [a1_next, if_pos (show s < lim by omega)]
    exact h1
/-- nothing is sought: the text is too short -/
def s0 (code text : Array Nat) (lim s pc : Nat) : M := { st code text lim s pc s [] 0 (some false) true s (({} : Seen).add 14) with lastStart := 0 }
theorem s0_fails {code text lim s pc} (k : Nat) : ∃ m', Ends (k + 1) (s0 code text lim s pc) m' ∧ m'.outcome = some .failed := by
  refine ⟨{ s0 code text lim s pc with outcome := some .failed }, ?_, rfl⟩
  refine Ends.step rfl ?_
  exact ⟨runFor_done rfl _, rfl⟩
theorem search1_some {text : Array Nat} {s e lim : Nat} (h1 : s ≤ e) (h2 : e < lim) (no : ∀ i, s ≤ i → i < e → (i == 0 || text.getD (i - 1) 0 == 10) = false) (yes : (e == 0 || text.getD (e - 1) 0 == 10) = true) (dot : text.getD e 0 = 46) :
    ∃ m', Ends (2 * (e - s) + 5) (forSearch code1 text 0 s lim false) m' ∧ m'.outcome = some .matched ∧ m'.start = e ∧ m'.handed = e + 1 := by
  have e1 : forSearch code1 text 0 s lim false = A1 text lim s true (({} : Seen).add 14) := by
    show (if (decide (s > lim) || decide (lim - s < 1)) = true then _ else _) = _
    rw [if_neg (by simp; omega)]
    rfl
  rw [e1]
  have hk : s + (e - s) = e := by omega
  have := a1_find (text := text) (lim := lim) (e - s) s true (({} : Seen).add 14) (by omega) (fun i a b => no i a (by omega)) (by rw [hk]; exact yes) (by rw [hk]; exact dot)
  rw [hk] at this; exact this
theorem search1_none {text : Array Nat} {s lim : Nat} (no : ∀ i, s ≤ i → i ≤ lim → s < lim → (i == 0 || text.getD (i - 1) 0 == 10) = false) :
    ∃ m', Ends (2 * (lim - s) + 3) (forSearch code1 text 0 s lim false) m' ∧ m'.outcome = some .failed := by
  by_cases h : s < lim
  · have e1 : forSearch code1 text 0 s lim false = A1 text lim s true (({} : Seen).add 14) := by
      show (if (decide (s > lim) || decide (lim - s < 1)) = true then _ else _) = _
      rw [if_neg (by simp; omega)]
      rfl
    rw [e1]
    exact a1_none (lim - s) s true _ (by omega) fun i a b => no i a b h
  · have e1 : forSearch code1 text 0 s lim false = s0 code1 text lim s 5 := by
      show (if (decide (s > lim) || decide (lim - s < 1)) = true then _ else _) = _
      rw [if_pos (by simp; omega)]
      rfl
    rw [e1]
    exact s0_fails _
end M3
end
-- part R4
section
set_option maxRecDepth 100000
namespace M3
open PySem PySem.Sre
def code2 : Array Nat := #[14, 9, 4, 1, 2, 16, 10, 16, 13, 0, 7, 7, 16, 13, 16, 10, 15, 18, 5, 16, 10, 15, 13, 11, 16, 13, 5, 5, 0, 16, 10, 1, 15, 2, 0, 1]
def code3 : Array Nat := #[14, 10, 4, 1, 1, 22, 0, 31, 16, 127, 0, 13, 7, 22, 0, 31, 16, 127, 0, 1]
def code4 : Array Nat := #[14, 14, 4, 1, 1, 9, 4294966783, 0, 0, 2147483648, 0, 0, 0, 0, 0, 13, 11, 9, 4294966783, 0, 0, 2147483648, 0, 0, 0, 0, 0, 1]
/-- the character is not in the first set -/
def NotIn (code : Array Nat) (c : Nat) : Prop := ∀ seen, ∃ seen', inSet code c code.size 5 true seen = .ok (false, seen')
theorem adm_some {m : M} {e : Nat} (he : e < m.lim) (yes : ∀ seen, ∃ seen', inSet m.code (m.text.getD e 0) m.code.size 5 true seen = .ok (true, seen')) : ∀ (k s fuel : Nat) (seen : Seen), s + k = e → k < fuel → (∀ i, s ≤ i → i < e → NotIn m.code (m.text.getD i 0)) → ∃ seen', M.admitted m fuel s seen = .ok (some e, seen')
  | k, s, 0, seen, hk, hf, no => by omega
  | 0, s, fuel + 1, seen, hk, hf, no => by
    have : s = e := by omega
    subst this
    obtain ⟨seen', h⟩ := yes seen
    refine ⟨seen', ?_⟩
    unfold M.admitted
    rw [if_neg (by omega), h]
  | k + 1, s, fuel + 1, seen, hk, hf, no => by
    obtain ⟨seen', h⟩ := no s (Nat.le_refl _) (by omega) seen
    obtain ⟨seen'', h2⟩ := adm_some he yes k (s + 1) fuel seen' (by omega) (by omega) (fun i a b => no i (by omega) b)
    refine ⟨seen'', ?_⟩
    unfold M.admitted
    rw [if_neg (by omega), h]
    exact h2
theorem adm_none {m : M} : ∀ (fuel s : Nat) (seen : Seen), (∀ i, s ≤ i → i < m.lim → NotIn m.code (m.text.getD i 0)) → ∃ seen', M.admitted m fuel s seen = .ok (none, seen')
  | 0, s, seen, no => ⟨seen, rfl⟩
  | fuel + 1, s, seen, no => by
    by_cases h : s ≥ m.lim
    · refine ⟨seen, ?_⟩
      unfold M.admitted
      rw [if_pos h]
    · obtain ⟨seen', h1⟩ := no s (Nat.le_refl _) (by omega) seen
      obtain ⟨seen'', h2⟩ := adm_none fuel (s + 1) seen' (fun i a b => no i (by omega) b)
      refine ⟨seen'', ?_⟩
      unfold M.admitted
      rw [if_neg h, h1]
      exact h2
theorem notIn2 {c : Nat} (h1 : c ≠ 10) (h2 : c ≠ 13) : NotIn code2 c := by
  intro seen
  refine ⟨((seen.add 16).add 16).add 0, ?_⟩
  show (if (c == 10) = true then _ else (if (c == 13) = true then _ else _)) = _
  rw [if_neg (by simpa using h1), if_neg (by simpa using h2)]
  rfl
theorem in2 : ∀ seen, ∃ seen', inSet code2 13 code2.size 5 true seen = .ok (true, seen') := fun seen => ⟨_, rfl⟩
theorem notIn3 {c : Nat} (h1 : 32 ≤ c) (h2 : c < 127) : NotIn code3 c := by
  intro seen
  refine ⟨((seen.add 22).add 16).add 0, ?_⟩
  show (if (decide (0 ≤ c) && decide (c ≤ 31)) = true then _ else (if (c == 127) = true then _ else _)) = _
  rw [if_neg (by simp; omega), if_neg (by simp; omega)]
  rfl
theorem bit4 : ∀ c : Fin 127, 32 ≤ c.val → (decide (c.val < 256) && (code4.getD (5 + (1 + c.val / 32)) 0).testBit (c.val % 32)) = false := by decide +kernel
theorem notIn4 {c : Nat} (h1 : 32 ≤ c) (h2 : c < 127) : NotIn code4 c := by
  intro seen
  refine ⟨(seen.add 9).add 0, ?_⟩
  show (if (decide (c < 256) && (code4.getD (5 + (1 + c / 32)) 0).testBit (c % 32)) = true then _ else _) = _
  rw [if_neg (by rw [bit4 ⟨c, h2⟩ h1]; decide)]
  rfl
def nb (e : Nat) : Sre.Frame := { wait := .nextBranch, pc := 11, pos := e, outermost := true }
def A2 (text : Array Nat) (lim e : Nat) (seen : Seen) : M := st code2 text lim e 10 e [nf 10 e true] 1 none true e seen
theorem a2_br {text lim e seen} : (A2 text lim e seen).step = st code2 text lim e 12 e [nb e, nf 10 e true] 2 none true e (seen.add 7) := rfl
theorem a2_cr {text lim e seen} (h : e < lim) (hd : text.getD e 0 = 13) : (st code2 text lim e 12 e [nb e, nf 10 e true] 2 none true e seen).step = st code2 text lim e 14 (e + 1) [nb e, nf 10 e true] 2 none true e (seen.add 16) := by
  rw [step_exec rfl rfl (show 12 < 36 by decide), exec_lit rfl, if_neg (by show ¬ e ≥ lim; omega), if_pos (by show (text.getD e 0 == 13) = true; rw [hd]; rfl)]
  rfl
theorem a2_lf {text lim e seen} (h : e + 1 < lim) (hd : text.getD (e + 1) 0 = 10) : (st code2 text lim e 14 (e + 1) [nb e, nf 10 e true] 2 none true e seen).step = st code2 text lim e 16 (e + 2) [nb e, nf 10 e true] 2 none true e (seen.add 16) := by
  rw [step_exec rfl rfl (show 14 < 36 by decide), exec_lit rfl, if_neg (by show ¬ e + 1 ≥ lim; omega), if_pos (by show (text.getD (e + 1) 0 == 10) = true; rw [hd]; rfl)]
  rfl
theorem a2_jp {text lim e seen} : (st code2 text lim e 16 (e + 2) [nb e, nf 10 e true] 2 none true e seen).step = st code2 text lim e 35 (e + 2) [nb e, nf 10 e true] 2 none true e (seen.add 15) := rfl
theorem a2_ok {text lim e seen} : (st code2 text lim e 35 (e + 2) [nb e, nf 10 e true] 2 none true e seen).step = st code2 text lim e 35 (e + 2) [nb e, nf 10 e true] 2 (some true) true (e + 2) (seen.add 1) := rfl
theorem a2_r1 {text lim e seen} : (st code2 text lim e 35 (e + 2) [nb e, nf 10 e true] 2 (some true) true (e + 2) seen).step = st code2 text lim e 11 e [nf 10 e true] 1 (some true) true (e + 2) seen := rfl
theorem a2_r2 {text lim e seen} : (st code2 text lim e 11 e [nf 10 e true] 1 (some true) true (e + 2) seen).step = st code2 text lim e 10 e [] 0 (some true) true (e + 2) seen := rfl
theorem a2_find {text lim e} (seen : Seen) (h : e + 1 < lim) (h1 : text.getD e 0 = 13) (h2 : text.getD (e + 1) 0 = 10) : ∃ m', Ends 8 (A2 text lim e seen) m' ∧ m'.outcome = some .matched ∧ m'.start = e ∧ m'.handed = e + 2 := by
  refine ⟨{ st code2 text lim e 10 e [] 0 (some true) true (e + 2) (((((seen.add 7).add 16).add 16).add 15).add 1) with outcome := some .matched }, ?_, rfl, rfl, rfl⟩
  refine Ends.step rfl ?_
  rw [a2_br]
  refine Ends.step rfl ?_
  rw [a2_cr (by omega) h1]
  refine Ends.step rfl ?_
  rw [a2_lf h h2]
  refine Ends.step rfl ?_
  rw [a2_jp]
  refine Ends.step rfl ?_
  rw [a2_ok]
  refine Ends.step rfl ?_
  rw [a2_r1]
  refine Ends.step rfl ?_
  rw [a2_r2]
  refine Ends.step rfl ?_
  exact Ends.over rfl
def stF (code text : Array Nat) (lim s pc : Nat) : M := st code text lim s pc s [] 0 none true s (({} : Seen).add 14)
theorem search2_some {text : Array Nat} {s e lim : Nat} (hs : s ≤ e) (he : e + 1 < lim) (no : ∀ i, s ≤ i → i < e → text.getD i 0 ≠ 10 ∧ text.getD i 0 ≠ 13) (h1 : text.getD e 0 = 13) (h2 : text.getD (e + 1) 0 = 10) :
    ∃ m', Ends 8 (forSearch code2 text 0 s lim false) m' ∧ m'.outcome = some .matched ∧ m'.start = e ∧ m'.handed = e + 2 := by
  obtain ⟨seen', ha⟩ := adm_some (m := stF code2 text lim s 10) (e := e) (show e < lim by omega) (by show ∀ seen, ∃ seen', inSet code2 (text.getD e 0) code2.size 5 true seen = _; rw [h1]; exact in2) (e - s) s (lim + 1 - s) (({} : Seen).add 14) (by omega) (by omega) fun i a b => notIn2 (no i a b).1 (no i a b).2
  have e1 : forSearch code2 text 0 s lim false = A2 text lim e seen' := by
    show (if (decide (s > lim) || decide (lim - s < 1)) = true then _ else _) = _
    rw [if_neg (by simp; omega)]
    show (match M.admitted (stF code2 text lim s 10) (lim + 1 - s) s (({} : Seen).add 14) with | .ok (some s, seen) => _ | .ok (none, seen) => _ | .error why => _) = _
    rw [ha]
    rfl
  rw [e1]
  exact a2_find seen' he h1 h2
theorem fails_of {m : M} {code text : Array Nat} {lim s pc : Nat} {seen : Seen} (k : Nat) (h : m = st code text lim s pc s [] 0 (some false) true s seen) : ∃ m', Ends (k + 1) m m' ∧ m'.outcome = some .failed := by
  subst h
  refine ⟨{ st code text lim s pc s [] 0 (some false) true s seen with outcome := some .failed }, ?_, rfl⟩
  refine Ends.step rfl ?_
  exact ⟨runFor_done rfl _, rfl⟩
theorem search2_none {text : Array Nat} {s lim : Nat} (no : ∀ i, s ≤ i → i < lim → text.getD i 0 ≠ 10 ∧ text.getD i 0 ≠ 13) :
    ∃ m', Ends 8 (forSearch code2 text 0 s lim false) m' ∧ m'.outcome = some .failed := by
  by_cases h : s < lim
  · obtain ⟨seen', ha⟩ := adm_none (m := stF code2 text lim s 10) (lim + 1 - s) s (({} : Seen).add 14) fun i a b => notIn2 (no i a b).1 (no i a b).2
    refine fails_of 7 (code := code2) (text := text) (lim := lim) (s := s) (pc := 10) (seen := seen') ?_
    show (if (decide (s > lim) || decide (lim - s < 1)) = true then _ else _) = _
    rw [if_neg (by simp; omega)]
    show (match M.admitted (stF code2 text lim s 10) (lim + 1 - s) s (({} : Seen).add 14) with | .ok (some s, seen) => _ | .ok (none, seen) => _ | .error why => _) = _
    rw [ha]
    rfl
  · have e1 : forSearch code2 text 0 s lim false = s0 code2 text lim s 10 := by
      show (if (decide (s > lim) || decide (lim - s < 1)) = true then _ else _) = _
      rw [if_pos (by simp; omega)]
      rfl
    rw [e1]
    exact s0_fails _
theorem search3_none {text : Array Nat} {lim : Nat} (no : ∀ i, i < lim → 32 ≤ text.getD i 0 ∧ text.getD i 0 < 127) :
    ∃ m', Ends 8 (forSearch code3 text 0 0 lim false) m' ∧ m'.outcome = some .failed := by
  by_cases h : 0 < lim
  · obtain ⟨seen', ha⟩ := adm_none (m := stF code3 text lim 0 11) (lim + 1 - 0) 0 (({} : Seen).add 14) fun i a b => notIn3 (no i b).1 (no i b).2
    refine fails_of 7 (code := code3) (text := text) (lim := lim) (s := 0) (pc := 11) (seen := seen') ?_
    show (if (decide (0 > lim) || decide (lim - 0 < 1)) = true then _ else _) = _
    rw [if_neg (by simp; omega)]
    show (match M.admitted (stF code3 text lim 0 11) (lim + 1 - 0) 0 (({} : Seen).add 14) with | .ok (some s, seen) => _ | .ok (none, seen) => _ | .error why => _) = _
    rw [ha]
    rfl
  · have e1 : forSearch code3 text 0 0 lim false = s0 code3 text lim 0 11 := by
      show (if (decide (0 > lim) || decide (lim - 0 < 1)) = true then _ else _) = _
      rw [if_pos (by simp; omega)]
      rfl
    rw [e1]
    exact s0_fails _
theorem search4_none {text : Array Nat} {lim : Nat} (no : ∀ i, i < lim → 32 ≤ text.getD i 0 ∧ text.getD i 0 < 127) :
    ∃ m', Ends 8 (forSearch code4 text 0 0 lim false) m' ∧ m'.outcome = some .failed := by
  by_cases h : 0 < lim
  · obtain ⟨seen', ha⟩ := adm_none (m := stF code4 text lim 0 15) (lim + 1 - 0) 0 (({} : Seen).add 14) fun i a b => notIn4 (no i b).1 (no i b).2
    refine fails_of 7 (code := code4) (text := text) (lim := lim) (s := 0) (pc := 15) (seen := seen') ?_
    show (if (decide (0 > lim) || decide (lim - 0 < 1)) = true then _ else _) = _
    rw [if_neg (by simp; omega)]
    show (match M.admitted (stF code4 text lim 0 15) (lim + 1 - 0) 0 (({} : Seen).add 14) with | .ok (some s, seen) => _ | .ok (none, seen) => _ | .error why => _) = _
    rw [ha]
    rfl
  · have e1 : forSearch code4 text 0 0 lim false = s0 code4 text lim 0 15 := by
      show (if (decide (0 > lim) || decide (lim - 0 < 1)) = true then _ else _) = _
      rw [if_pos (by simp; omega)]
      rfl
    rw [e1]
    exact s0_fails _
end M3
end
-- part R5
section
set_option maxRecDepth 100000
namespace M3
open PySem PySem.Calls PySem.Spec PyProof.Rows PySem.W PySem.Builtin PySem.Builtin.Str PySem.Builtin.Re
theorem textOf_str (x : Str) (t : Tok) : reTextOf (.str x t) = pure (x.cps, 0) := rfl
theorem noColl (v : Value) : reNoCollectionInside v 0 = pure () := rfl
theorem named_search (id f : String) (v : Value) : reNamed id f ["string", "pos", "endpos"] 1 [v] [] = pure [some v, none, none] := rfl
theorem named_sub (id f : String) (v u : Value) : reNamed id f ["repl", "string", "count"] 2 [v, u] [] = pure [some v, some u, none] := rfl
/-- a pattern that stands in the heap -/
def PatH (h : Heap) (p : Addr) (code : Array Nat) : Prop := ∃ src t1 fl t2 c items n, h.get? p = some { cls := .type "re.Pattern", data := .fields #[.str src t1, .int fl t2, .int 0 0, .none, .none, .ref c, .int 0 0] } ∧ h.get? c = some { cls := .type "tuple", data := .seq items n } ∧ (items.map reRawOf).map (·.toNat) = code
theorem PatH.keep {h h' : Heap} {p code} (x : PatH h p code) (k : ∀ b o, h.get? b = some o → h'.get? b = some o) : PatH h' p code := by
  obtain ⟨src, t1, fl, t2, c, items, n, e1, e2, e3⟩ := x
  exact ⟨src, t1, fl, t2, c, items, n, k _ _ e1, k _ _ e2, e3⟩
section
variable {prog : Program} {w : World} {A : Around} {E : Value → Shared → Prop} {s : Shared}
theorem PatH.typeIs {p code} (x : PatH s.heap p code) : s.TypeIs (.ref p) "re.Pattern" := by
  obtain ⟨src, t1, fl, t2, c, items, n, e1, e2, e3⟩ := x
  exact ⟨_, e1, rfl⟩
theorem PatH.noDict {p code} (x : PatH s.heap p code) : ∀ a, Value.ref p = .ref a → ∃ o, s.heap.get? a = some o ∧ o.dict = none := by
  obtain ⟨src, t1, fl, t2, c, items, n, e1, e2, e3⟩ := x
  intro a e
  cases e
  exact ⟨_, e1, rfl⟩
theorem wp_rawItems {c : Addr} {items n} {Q : Array Int → Shared → Prop} (h : s.heap.get? c = some { cls := .type "tuple", data := .seq items n }) (hq : Q (items.map reRawOf) s) : wpAny (model prog w) A (reRawItems (.ref c)) Q E s := by
  unfold reRawItems
  exact wpAny_bind (wpAny_seqItems h rfl (wpAny_pure hq))
theorem wp_search {p code} {x : Str} {t : Tok} {m' : Sre.M} {n : Nat} {Q : Fin → Shared → Prop} (P : PatH s.heap p code) (hx : x.cps.size < 1000000) (e : Ends n (Sre.forSearch code x.cps 0 0 x.cps.size false) m') (ho : m'.outcome = some .failed) (hn : n ≤ 1000000000) (hq : Q (.done (.ret .none)) s) :
    wpAny (model prog w) A (Builtin.«re.Pattern.search» ⟨[.ref p, .str x t], []⟩) Q E s := by
  obtain ⟨src, t1, fl, t2, c, items, k, e1, e2, e3⟩ := P
  unfold Builtin.«re.Pattern.search» reTarget
  refine wpAny_bind ?_
  show wpAny _ _ (do let r ← reNamed "re.Pattern.search" "search" ["string", "pos", "endpos"] 1 [.str x t] []; _) _ _ _
  rw [named_search]
  refine wpAny_bind (wpAny_pure ?_)
  refine wpAny_bind (wpAny_pure ?_)
  refine wpAny_bind (wpAny_pure ?_)
  refine wpAny_bind (wpAny_fieldsOf e1 rfl ?_)
  rw [textOf_str]
  refine wpAny_bind (wpAny_pure ?_)
  refine wpAny_bind (wpAny_pure ?_)
  refine wpAny_bind (wp_rawItems e2 ?_)
  refine wpAny_pure ?_
  unfold reAnswer
  rw [e3]
  have hz : min ((2 ^ 63 - 1 : Int)).toNat x.cps.size = x.cps.size := by
    rw [show ((2 ^ 63 - 1 : Int)).toNat = 9223372036854775807 by rfl]; omega
  refine wpAny_bind (wp_toEnd (m := Sre.forSearch code x.cps 0 0 (min ((2 ^ 63 - 1 : Int)).toNat x.cps.size) false) (m' := m') (n := n) (r := none) ?_ hn ho (.inr ⟨rfl, rfl⟩) ?_)
  · rw [hz]; exact e
  · exact wpAny_pure hq
end
end M3
end
-- part R6
section
set_option maxRecDepth 100000
namespace M3
open PySem PySem.Calls PySem.Spec PyProof.Rows PySem.W PySem.Builtin PySem.Builtin.Str PySem.Builtin.Re
def Seeks (code text : Array Nat) (d : Nat) (r : Option (Nat × Nat)) : Prop := ∃ n m', n ≤ 1000000000 ∧ Ends n (Sre.forSearch code text 0 d text.size false) m' ∧ (match r with
  | none => m'.outcome = some .failed
  | some (b, e) => m'.outcome = some .matched ∧ m'.start = b ∧ m'.handed = e)
/-- where the pattern is found, from d on -/
inductive Cuts (code text : Array Nat) : Nat → List (Nat × Nat) → Prop
  | nil {d} : d ≤ text.size → Seeks code text d none → Cuts code text d []
  | cons {d b e rest} : d ≤ b → b < e → e ≤ text.size → Seeks code text d (some (b, e)) → Cuts code text e rest → Cuts code text d ((b, e) :: rest)
def glueL (text : Array Nat) (y : Str) : Nat → List (Nat × Nat) → List Str
  | d, [] => if d < text.size then [⟨text.extract d text.size⟩] else []
  | d, (b, e) :: r => (if d < b then [⟨text.extract d b⟩] else []) ++ y :: glueL text y e r
section
variable {prog : Program} {w : World} {A : Around} {E : Value → Shared → Prop} {s : Shared}
theorem wp_wholeTarget {p code} {x : Str} {t : Tok} {Q : ReTarget → Shared → Prop} (P : PatH s.heap p code) (hq : Q ⟨.ref p, .str x t, code, x.cps, 0, 0, 0, x.cps.size⟩ s) : wpAny (model prog w) A (reWholeTarget (.ref p) (.str x t)) Q E s := by
  obtain ⟨src, t1, fl, t2, c, items, k, e1, e2, e3⟩ := P
  unfold reWholeTarget
  refine wpAny_bind (wpAny_fieldsOf e1 rfl ?_)
  rw [textOf_str]
  refine wpAny_bind (wpAny_pure ?_)
  refine wpAny_bind (wpAny_pure ?_)
  refine wpAny_bind (wp_rawItems e2 ?_)
  refine wpAny_pure ?_
  rw [e3]
  exact hq
theorem wp_seeks {code text : Array Nat} {d : Nat} {r : Option (Nat × Nat)} {Q : Option Sre.M → Shared → Prop} (h : Seeks code text d r) (hq : ∀ o : Option Sre.M, (match r with | none => o = none | some (b, e) => ∃ m, o = some m ∧ m.start = b ∧ m.handed = e) → Q o s) :
    wpAny (model prog w) A (reRunToEnd (Sre.forSearch code text 0 d text.size false)) Q E s := by
  obtain ⟨n, m', hn, he, h⟩ := h
  match r, h with
  | none, h => exact wp_toEnd he hn h (.inr ⟨rfl, rfl⟩) (hq none rfl)
  | some (b, e), ⟨h1, h2, h3⟩ => exact wp_toEnd he hn h1 (.inl ⟨rfl, rfl⟩) (hq (some m') ⟨m', rfl, h2, h3⟩)
theorem strsAre_snoc : ∀ {us : List Value} {acc : List Str}, StrsAre us acc → ∀ (y : Str) (u : Tok), StrsAre (us ++ [.str y u]) (acc ++ [y])
  | _, _, .nil, y, u => .cons y u .nil
  | _, _, .cons z v r, y, u => .cons z v (strsAre_snoc r y u)
def Lk (s : Shared) (L : Addr) (us : List Value) : Prop := ∃ k, s.heap.get? L = some { cls := .type "list", data := .seq us.toArray k }
theorem wp_pushPiece {L : Addr} {us : List Value} {acc : List Str} {y : Str} {u : Tok} {Q : Unit → Shared → Prop} (hl : Lk s L us) (hv : StrsAre us acc) (hz : us.length ≤ 1000000) (hq : ∀ s', Lk s' L (us ++ [.str y u]) → StrsAre (us ++ [.str y u]) (acc ++ [y]) → Heap.SameBut L s.heap s'.heap → (∃ h' tk, s' = { s with heap := h', toks := tk }) → Q () s') :
    wpAny (model prog w) A (updateSeq L (·.push (.str y u))) Q E s := by
  obtain ⟨k, e⟩ := hl
  refine wpAny_updateSeq e rfl (hq _ ?_ (strsAre_snoc hv y u) (Heap.SameBut.update ..) ⟨_, s.toks, rfl⟩) (by simp; exact Nat.le_trans hz (by decide)) (by simp; exact Nat.le_trans hz (by decide))
  have := IsL.update e (fun xs => xs.push (.str y u))
  rw [List.push_toArray] at this
  exact ⟨_, this⟩
theorem PatH.but {L : Addr} {us : List Value} {h' : Heap} {p code} (x : PatH s.heap p code) (hl : Lk s L us) (k : Heap.SameBut L s.heap h') : PatH h' p code := by
  obtain ⟨src, t1, fl, t2, c, items, n, e1, e2, e3⟩ := x
  obtain ⟨k1, ek⟩ := hl
  refine ⟨src, t1, fl, t2, c, items, n, ?_, ?_, e3⟩
  · rw [k.2 p fun e => by subst e; have h := congrArg Obj.cls (Option.some.inj (e1.symm.trans ek)); simp at h]; exact e1
  · rw [k.2 c fun e => by subst e; have h := congrArg Obj.cls (Option.some.inj (e2.symm.trans ek)); simp at h]; exact e2
theorem ext00 (x : Array Nat) : x.extract 0 0 = #[] := by simp
theorem wp_joinAll {x : Str} {L : Addr} {n : Int} {s1 : Shared} {us1 : List Value} {acc1 : List Str} {R : Result → Shared → Prop} (hl1 : Lk s1 L us1) (hv1 : StrsAre us1 acc1) (hj : (acc1.map (·.length)).sum ≤ 16777216)
    (hr : ∀ tk t', R (.ok (.ret (.str (Txt.join ⟨#[]⟩ acc1) t'))) { s1 with toks := tk }) :
    wpAny (model prog w) A.in1 (do
            let joiner ← reSlice x.cps 0 0 0
            let text ← if ((← seqItems? (.ref L)).getD #[]).isEmpty then pure joiner else call (.builtin "str.join") [joiner, .ref L]
            if false = true then ret (← holding [text] do newTuple [text, ← mkInt n]) else ret text)
            (fun fin s' => match fin with | .done f => R (.ok f) s' | .again c' => c'.quiet = true ∧ codeAny (model prog w) A c' R s') (fun e s' => R (.error e) s') s1 := by
  obtain ⟨k1, ek⟩ := hl1
  refine wpAny_bind (wpAny_mkStr ?_ (by rw [ext00]; decide))
  refine wpAny_bind (wpAny_seqItems ek rfl ?_)
  dsimp only
  rw [ext00]
  refine wpAny_ite_split (fun h => ?_) fun h => ?_
  · have hus : us1 = [] := by simpa using h
    subst hus
    cases hv1
    refine wpAny_bind (wpAny_pure ?_)
    refine wpAny_ite_false rfl ?_
    exact wpAny_pure (hr _ _)
  · refine wpAny_bind (join_list (items := us1.toArray) ⟨_, ek, rfl, _, rfl⟩ (by simpa using hv1) ?_ fun t' k => ?_)
    · show _ + _ * 0 ≤ _; omega
    · refine wpAny_ite_false rfl ?_
      exact wpAny_pure (hr _ _)
theorem sub_loop {p code} {x y : Str} {t u : Tok} {L : Addr} {R : Result → Shared → Prop} {n : Int} (hx : x.cps.size ≤ 100000) (hy : y.cps.size ≤ 100000) : ∀ (cuts : List (Nat × Nat)) (d : Nat) (n : Int) (us : List Value) (acc : List Str) (s : Shared), Cuts code x.cps d cuts → PatH s.heap p code → L ≠ p → Lk s L us → StrsAre us acc → us.length + 2 * cuts.length + 2 ≤ 1000000 →
    ((acc ++ glueL x.cps y d cuts).map (·.length)).sum ≤ 16777216 → (∀ s' t', Heap.SameBut L s.heap s'.heap → (∃ h' tk, s' = { s with heap := h', toks := tk }) → R (.ok (.ret (.str (Txt.join ⟨#[]⟩ (acc ++ glueL x.cps y d cuts)) t'))) s') →
    wpAny (model prog w) A.in1 (Builtin.«re.Pattern.sub.loop» ⟨[.ref p, .str x t, .str y u, rawInt 0, rawInt 0, rawInt n, rawInt (d : Int), rawInt (d : Int), .bool false, .ref L, .bool false], []⟩)
      (fun fin s' => match fin with | .done f => R (.ok f) s' | .again c' => c'.quiet = true ∧ codeAny (model prog w) A c' R s') (fun e s' => R (.error e) s') s := by
  intro cuts
  induction cuts with
  | nil =>
    intro d n us acc s hc P hLp hl hv hsz hj hr
    cases hc with
    | nil hd hs =>
      unfold Builtin.«re.Pattern.sub.loop»
      refine wpAny_bind (wp_wholeTarget P ?_)
      refine wpAny_bind (wpAny_pure ?_)
      refine wpAny_bind (wp_seeks hs fun o ho => ?_)
      have ho' : o = none := ho
      subst ho'
      by_cases hd' : d < x.cps.size
      · have hg : glueL x.cps y d [] = [⟨x.cps.extract d x.cps.size⟩] := by unfold glueL; rw [if_pos hd']
        rw [hg] at hj hr
        refine wpAny_ite_true (by simpa using hd') ?_
        refine wpAny_bind (wpAny_mkStr ?_ (by show (x.cps.extract d x.cps.size).size ≤ sizeLine; rw [Array.size_extract]; exact Nat.le_trans (by omega) (show 100000 ≤ sizeLine by decide)))
        refine wpAny_bind (wp_pushPiece (s := { s with toks := s.toks + 1 }) hl hv (by omega) fun s1 hl1 hv1 hsb hst => ?_)
        obtain ⟨h1, tk1, rfl⟩ := hst
        exact wp_joinAll (x := x) (n := n) hl1 hv1 hj fun tk t' => hr _ t' hsb ⟨h1, tk, rfl⟩
      · have hg : glueL x.cps y d [] = [] := by unfold glueL; rw [if_neg hd']
        rw [hg, List.append_nil] at hj hr
        refine wpAny_ite_false (by simpa using hd') ?_
        exact wp_joinAll (x := x) (n := n) hl hv hj fun tk t' => hr _ t' (Heap.SameBut.refl ..) ⟨s.heap, tk, rfl⟩
  | cons be r ih =>
    intro d n us acc s hc P hLp hl hv hsz hj hr
    cases hc with
    | cons hdb hbe he hs hrest =>
      rename_i b e
      unfold Builtin.«re.Pattern.sub.loop»
      refine wpAny_bind (wp_wholeTarget P ?_)
      refine wpAny_bind (wpAny_pure ?_)
      refine wpAny_bind (wp_seeks hs fun o ho => ?_)
      obtain ⟨m, rfl, rfl, rfl⟩ : ∃ m, o = some m ∧ m.start = b ∧ m.handed = e := ho
      rw [List.length_cons] at hsz
      have key : ∀ (s1 : Shared) (us1 : List Value) (acc1 : List Str), Lk s1 L us1 → StrsAre us1 acc1 → acc1 = acc ++ (if d < m.start then [⟨x.cps.extract d m.start⟩] else []) → us1.length ≤ us.length + 1 → Heap.SameBut L s.heap s1.heap → (∃ h' tk, s1 = { s with heap := h', toks := tk }) →
          wpAny (model prog w) A.in1 (do
            updateSeq L (·.push (.str y u))
            again (.builtin "re.Pattern.sub.loop" ⟨[.ref p, .str x t, .str y u, rawInt 0, rawInt 0, rawInt (n + 1), rawInt m.handed, rawInt m.handed, .bool (m.handed == m.start), .ref L, .bool false], []⟩))
            (fun fin s' => match fin with | .done f => R (.ok f) s' | .again c' => c'.quiet = true ∧ codeAny (model prog w) A c' R s') (fun e s' => R (.error e) s') s1 := by
        intro s1 us1 acc1 hl1 hv1 e1 hlen hsb hst
        obtain ⟨h1, tk1, rfl⟩ := hst
        refine wpAny_bind (wp_pushPiece hl1 hv1 (by omega) fun s2 hl2 hv2 hsb2 hst2 => ?_)
        obtain ⟨h2, tk2, rfl⟩ := hst2
        have em : (m.handed == m.start) = false := by simp; omega
        rw [em]
        have hsb3 : Heap.SameBut L s.heap h2 := hsb.trans hsb2
        have hP : PatH h2 p code := P.but hl hsb3
        have eg : acc1 ++ [y] ++ glueL x.cps y m.handed r = acc ++ glueL x.cps y d ((m.start, m.handed) :: r) := by
          subst e1
          show _ = acc ++ ((if d < m.start then [⟨x.cps.extract d m.start⟩] else []) ++ y :: glueL x.cps y m.handed r)
          simp
        refine wpAny_pure ⟨plainId_quiet plain_subloop _, codeAny_builtin entry_subloop ?_⟩
        rw [Around.under_plainId plain_subloop _]
        exact ih m.handed (n + 1) _ _ _ hrest hP hLp hl2 hv2 (by simp; omega) (by rw [eg]; exact hj) fun s' t' a b => by
          rw [eg]
          refine hr s' t' (hsb3.trans a) ?_
          obtain ⟨h3, t3, rfl⟩ := b
          exact ⟨h3, t3, rfl⟩
      by_cases hd' : d < m.start
      · refine wpAny_ite_true (by simpa using hd') ?_
        refine wpAny_bind (wpAny_mkStr ?_ (by show (x.cps.extract d m.start).size ≤ sizeLine; rw [Array.size_extract]; exact Nat.le_trans (by omega) (show 100000 ≤ sizeLine by decide)))
        refine wpAny_bind (wp_pushPiece (s := { s with toks := s.toks + 1 }) hl hv (by omega) fun s1 hl1 hv1 hsb hst => ?_)
        obtain ⟨h1, tk1, rfl⟩ := hst
        exact key _ _ _ hl1 hv1 (by rw [if_pos hd']; rfl) (by simp) hsb ⟨h1, tk1, rfl⟩
      · refine wpAny_ite_false (by simpa using hd') ?_
        exact key _ _ _ hl hv (by rw [if_neg hd']; simp) (by omega) (Heap.SameBut.refl ..) ⟨s.heap, s.toks, rfl⟩
end
end M3
end
-- part R7
section
set_option maxRecDepth 100000
namespace M3
open PySem PySem.Calls PySem.Spec PyProof.Rows PySem.W PySem.Builtin PySem.Builtin.Str PySem.Builtin.Re
theorem str_no_call : typeLookup (.type "str") "__call__" = pure none := by rw [typeLookup_type, builtinLookup_eq_fast]; kernel_rfl
theorem typeOf_str (x : Str) (t : Tok) : typeOf (.str x t) = pure (.type "str") := rfl
section
variable {prog : Program} {w : World} {A : Around} {E : Value → Shared → Prop} {s : Shared}
theorem wp_sub {p code} {x y : Str} {t u : Tok} {cuts : List (Nat × Nat)} {R : Result → Shared → Prop} (P : PatH s.heap p code) (hx : x.cps.size ≤ 100000) (hy : y.cps.size ≤ 100000) (hy92 : y.cps.contains 92 = false) (hc : Cuts code x.cps 0 cuts)
    (hsz : 2 * cuts.length + 2 ≤ 1000000) (hj : ((glueL x.cps y 0 cuts).map (·.length)).sum ≤ 16777216)
    (hr : ∀ h' tk t', (∀ b o, s.heap.get? b = some o → h'.get? b = some o) → R (.ok (.ret (.str (Txt.join ⟨#[]⟩ (glueL x.cps y 0 cuts)) t'))) { s with heap := h', toks := tk }) :
    wpAny (model prog w) A.in1 (Builtin.«re.Pattern.sub» ⟨[.ref p, .str y u, .str x t], []⟩)
      (fun fin s' => match fin with | .done f => R (.ok f) s' | .again c' => c'.quiet = true ∧ codeAny (model prog w) A c' R s') (fun e s' => R (.error e) s') s := by
  unfold Builtin.«re.Pattern.sub» reSubstitute
  show wpAny _ _ (do let r ← reNamed "re.Pattern.sub" "sub" ["repl", "string", "count"] 2 [.str y u, .str x t] []; _) _ _ _
  rw [named_sub]
  refine wpAny_bind (wpAny_pure ?_)
  refine wpAny_bind (wpAny_pure ?_)
  refine wpAny_bind (wpAny_specialOf_val (typeOf_str _ _) str_no_call ?_)
  refine wpAny_bind (wpAny_pure ?_)
  refine wpAny_bind (wpAny_pure ?_)
  rw [hy92]
  refine wpAny_bind (wpAny_pure ?_)
  refine wpAny_bind (wpAny_holding (wp_wholeTarget P ?_))
  dsimp only
  refine wpAny_ite_false rfl ?_
  refine wpAny_bind (wpAny_newList ?_ (by decide))
  refine wpAny_pure ⟨plainId_quiet plain_subloop _, codeAny_builtin entry_subloop ?_⟩
  rw [Around.under_plainId plain_subloop _]
  have hk : ∀ b o, s.heap.get? b = some o → (s.heap.push { cls := .type "list", data := .seq [].toArray }).get? b = some o := fun b o e => Heap.get?_push_of_some _ e
  refine sub_loop (n := 0) hx hy cuts 0 0 [] [] _ hc (P.keep hk) ?_ ⟨0, Heap.get?_push_size _ rfl⟩ .nil (by simpa using hsz) (by simpa using hj) fun s' t' hsb hst => ?_
  · intro e
    obtain ⟨src, t1, fl, t2, c, items, n, e1, e2, e3⟩ := P
    rw [← e] at e1
    exact absurd e1 (by rw [fresh_none]; simp)
  · obtain ⟨h', tk, rfl⟩ := hst
    rw [List.nil_append]
    refine hr h' tk t' fun b o e => ?_
    have hb : b ≠ s.heap.objs.size := fun q => by rw [q, fresh_none] at e; cases e
    exact (hsb.2 b hb).trans (hk b o e)
end
/-- a pattern of the world -/
def PatK (G : Gc) (p : Addr) (code : Array Nat) : Prop := ∃ src t1 fl t2 c items n, G.K.lookup p = some { cls := .type "re.Pattern", data := .fields #[.str src t1, .int fl t2, .int 0 0, .none, .none, .ref c, .int 0 0] } ∧ G.K.lookup c = some { cls := .type "tuple", data := .seq items n } ∧ (items.map reRawOf).map (·.toNat) = code
section
variable {G : Gc} {n : Nat} {sc : Scope} {ρ : Rho}
theorem PatK.at {p code Z} {s : Shared} (x : PatK G p code) (z0 : G.Z0 Z) (zin : Zin Z s.heap) : PatH s.heap p code := by
  obtain ⟨src, t1, fl, t2, c, items, n, e1, e2, e3⟩ := x
  exact ⟨src, t1, fl, t2, c, items, n, (z0.bs zin).k _ _ e1, (z0.bs zin).k _ _ e2, e3⟩
theorem Mt.pat {p : Addr} {code : Array Nat} {name : Str} {id : String} {P : Value → List D → Prop} (x : PatK G p code) (slot : PySem.Slot "re.Pattern" name id) (hty : typeOf (.builtin id) = pure (.type "method_descriptor")) (h : P (.builtin id) [.addr p]) : Mt G n name (.addr p) P := by
  intro A Z s v pl Q E r z0 zin hv hq
  have e : v = .ref p := hv
  subst e
  have hP : PatH s.heap p code := x.at z0 zin
  exact getMethod_builtin hP.typeIs plainAttrs_re slot hty hP.noDict (hq _ _ _ Kpr.builtin h (HoldsL.one hv))
theorem Cv.sub {p : Addr} {code : Array Nat} {x y : Str} {cuts : List (Nat × Nat)} (P : PatK G p code) (hx : x.cps.size ≤ 100000) (hy : y.cps.size ≤ 100000) (hy92 : y.cps.contains 92 = false) (hc : Cuts code x.cps 0 cuts)
    (hsz : 2 * cuts.length + 2 ≤ 1000000) (hj : ((glueL x.cps y 0 cuts).map (·.length)).sum ≤ 16777216) : Cv G n (.builtin "re.Pattern.sub") [.addr p, .str y, .str x] (.str (Txt.join ⟨#[]⟩ (glueL x.cps y 0 cuts))) := by
  intro A Z s vs Q E rm z0 zin h hq
  obtain ⟨v, w, u, rfl, hv, ⟨t1, rfl⟩, t2, rfl⟩ := three h
  have e : v = .ref p := hv
  subst e
  have hP : PatH s.heap p code := P.at z0 zin
  refine wpAny_call (codeAny_call_builtin slot_sub.plain entry_sub (slot_sub.check _ _ _ _ _ _ _ _ hP.typeIs (args_sub _ _ _) (wp_sub (R := wants Q E) hP hx hy hy92 hc hsz hj fun h' tk t' k => ?_)))
  exact hq _ Z _ (PStep.same (h' := h') (tk := tk) zin k) ⟨_, rfl⟩
theorem Cv.search {p : Addr} {code : Array Nat} {x : Str} (P : PatK G p code) (hx : x.cps.size < 1000000) (e : ∃ m' n, n ≤ 1000000000 ∧ Ends n (Sre.forSearch code x.cps 0 0 x.cps.size false) m' ∧ m'.outcome = some .failed) : Cv G n (.builtin "re.Pattern.search") [.addr p, .str x] .none := by
  intro A Z s vs Q E rm z0 zin h hq
  obtain ⟨v, w, rfl, hv, t1, rfl⟩ := two h
  have e' : v = .ref p := hv
  subst e'
  have hP : PatH s.heap p code := P.at z0 zin
  obtain ⟨m', n, hn, he, ho⟩ := e
  refine wpAny_call (codeAny_call_builtin slot_search.plain entry_search (slot_search.check _ _ _ _ _ _ _ _ hP.typeIs (args_search _ _) (wp_search hP hx he ho hn ?_)))
  exact hq _ Z _ (PStep.refl zin) rfl
theorem Ev.glob {x : Str} {pos : Pos} {a : Addr} (c : Callee G sc x (.ref a)) : Ev G n sc ρ (.Name x pos) (.addr a) := by
  intro A env g Z s Q E rm he S hq
  exact c.eval S he (hq _ Z s (PStep.refl S.zin) rfl)
end
end M3
end
-- part R8
section
namespace M3
open PySem
def jn : List (List Nat) → List Nat
  | [] => []
  | [r] => r
  | r :: r' :: rs => r ++ 13 :: 10 :: jn (r' :: rs)
def flat (l : List Str) : List Nat := l.flatMap fun s => s.cps.toList
theorem getD_arr (T : List Nat) (i : Nat) : T.toArray.getD i 0 = T.getD i 0 := by
  simp [List.getD_eq_getElem?_getD, Array.getD_eq_getD_getElem?]
theorem getD_app (pre m : List Nat) (k : Nat) : (pre ++ m).getD (pre.length + k) 0 = m.getD k 0 := by
  rw [List.getD_eq_getElem?_getD, List.getD_eq_getElem?_getD, List.getElem?_append_right (Nat.le_add_right ..), Nat.add_sub_cancel_left]
theorem getD_lo (pre m : List Nat) (k : Nat) (h : k < pre.length) : (pre ++ m).getD k 0 = pre.getD k 0 := by
  simp [List.getD_eq_getElem?_getD, List.getElem?_append_left h]
theorem getD_mem (r : List Nat) (k : Nat) (h : k < r.length) : r.getD k 0 ∈ r := by
  rw [List.getD_eq_getElem?_getD, List.getElem?_eq_getElem h]; exact List.getElem_mem h
theorem ext_mid (pre r suf : List Nat) : ((pre ++ (r ++ suf)).toArray.extract pre.length (pre.length + r.length)).toList = r := by
  simp
theorem ext_end (pre r : List Nat) : ((pre ++ r).toArray.extract pre.length (pre ++ r).length).toList = r := by
  simp
theorem cuts2 : ∀ (rs : List (List Nat)) (pre T : List Nat), T = pre ++ jn rs → (∀ r ∈ rs, ∀ c ∈ r, c ≠ 10 ∧ c ≠ 13) →
    ∃ cuts, Cuts code2 T.toArray pre.length cuts ∧ cuts.length ≤ rs.length ∧ flat (glueL T.toArray ⟨#[13, 10]⟩ pre.length cuts) = jn rs
  | [], pre, T, hT, ok => by
    subst hT
    refine ⟨[], .nil (by simp [jn]) ?_, Nat.le_refl _, ?_⟩
    · obtain ⟨m', h1, h2⟩ := search2_none (text := (pre ++ jn []).toArray) (s := pre.length) (lim := (pre ++ jn []).toArray.size) fun i a b => by simp [jn] at b; omega
      exact ⟨8, m', by decide, h1, h2⟩
    · unfold glueL
      rw [if_neg (by simp [jn])]; rfl
  | [r], pre, T, hT, ok => by
    subst hT
    refine ⟨[], .nil (by simp) ?_, Nat.zero_le _, ?_⟩
    · obtain ⟨m', h1, h2⟩ := search2_none (text := (pre ++ jn [r]).toArray) (s := pre.length) (lim := (pre ++ jn [r]).toArray.size) fun i a b => by
        simp only [jn, List.size_toArray, List.length_append] at b
        rw [getD_arr, show i = pre.length + (i - pre.length) by omega, getD_app]
        exact ok r (by simp) _ (getD_mem r _ (by omega))
      exact ⟨8, m', by decide, h1, h2⟩
    · unfold glueL
      by_cases h : pre.length < (pre ++ jn [r]).toArray.size
      · rw [if_pos h]
        simp [flat, jn]
      · rw [if_neg h]
        simp [jn] at h
        subst h
        rfl
  | r :: r' :: rs, pre, T, hT, ok => by
    have hT' : T = (pre ++ r ++ [13, 10]) ++ jn (r' :: rs) := by rw [hT]; simp [jn]
    obtain ⟨cuts, h1, h2, h3⟩ := cuts2 (r' :: rs) (pre ++ r ++ [13, 10]) T hT' fun r hr => ok r (List.mem_cons_of_mem _ hr)
    have hlen : (pre ++ r ++ [13, 10]).length = pre.length + r.length + 2 := by simp; omega
    rw [hlen] at h1 h3
    have hsize : T.toArray.size = pre.length + r.length + 2 + (jn (r' :: rs)).length := by rw [hT']; simp; omega
    have hTm : T = pre ++ (r ++ 13 :: 10 :: jn (r' :: rs)) := by rw [hT]; simp [jn]
    refine ⟨(pre.length + r.length, pre.length + r.length + 2) :: cuts, .cons (by omega) (by omega) (by omega) ?_ h1, by simp at h2 ⊢; omega, ?_⟩
    · obtain ⟨m', g1, g2, g3, g4⟩ := search2_some (text := T.toArray) (s := pre.length) (e := pre.length + r.length) (lim := T.toArray.size) (by omega) (by omega) (fun i a b => by
          rw [getD_arr, hTm, show i = pre.length + (i - pre.length) by omega, getD_app, getD_lo _ _ _ (by omega)]
          exact ok r (by simp) _ (getD_mem r _ (by omega))) (by rw [getD_arr, hTm, getD_app, show r.length = r.length + 0 by omega, getD_app]; rfl) (by rw [getD_arr, hTm, Nat.add_assoc, getD_app, getD_app]; rfl)
      exact ⟨8, m', by decide, g1, g2, g3, g4⟩
    · show flat ((if pre.length < pre.length + r.length then [⟨T.toArray.extract pre.length (pre.length + r.length)⟩] else []) ++ ⟨#[13, 10]⟩ :: glueL T.toArray ⟨#[13, 10]⟩ (pre.length + r.length + 2) cuts) = _
      have e : flat (if pre.length < pre.length + r.length then [⟨T.toArray.extract pre.length (pre.length + r.length)⟩] else []) = r := by
        by_cases h : pre.length < pre.length + r.length
        · rw [if_pos h]
          show _ ++ [] = r
          rw [List.append_nil]
          show (T.toArray.extract pre.length (pre.length + r.length)).toList = r
          rw [hTm, ext_mid]
        · rw [if_neg h]
          have : r = [] := List.eq_nil_of_length_eq_zero (by omega)
          subst this; rfl
      have : ∀ a b, flat (a ++ b) = flat a ++ flat b := fun a b => by simp [flat]
      rw [this, e]
      show r ++ ([13, 10] ++ flat _) = _
      rw [h3]; rfl
theorem cuts1_mid : ∀ (rs : List (List Nat)) (rest pre T : List Nat), T = pre ++ jn (rest :: rs) → (∀ c ∈ rest, c ≠ 10) → (∀ r ∈ rs, ∃ r', r = 46 :: r' ∧ ∀ c ∈ r', c ≠ 10) → 0 < pre.length → pre.getD (pre.length - 1) 0 ≠ 10 → T.length ≤ 100000 →
    ∃ cuts, Cuts code1 T.toArray pre.length cuts ∧ cuts.length ≤ rs.length ∧ flat (glueL T.toArray ⟨#[46, 46]⟩ pre.length cuts) = jn (rest :: rs.map (46 :: ·))
  | [], rest, pre, T, hT, ok, oks, h0, hl, hb => by
    subst hT
    refine ⟨[], .nil (by simp) ?_, Nat.zero_le _, ?_⟩
    · obtain ⟨m', h1, h2⟩ := search1_none (text := (pre ++ jn [rest]).toArray) (s := pre.length) (lim := (pre ++ jn [rest]).toArray.size) fun i a b _ => by
        have hsz : (pre ++ jn [rest]).toArray.size = pre.length + rest.length := by simp [jn]
        have h1 : (i == 0) = false := by simp; omega
        have h2 : ((pre ++ jn [rest]).toArray.getD (i - 1) 0 == 10) = false := by
          rw [getD_arr, beq_eq_false_iff_ne]
          by_cases q : i - 1 < pre.length
          · rw [getD_lo _ _ _ q, show i - 1 = pre.length - 1 by omega]; exact hl
          · rw [show i - 1 = pre.length + (i - 1 - pre.length) by omega, getD_app]
            exact ok _ (getD_mem rest _ (by omega))
        rw [h1, h2]; rfl
      exact ⟨_, m', by simp at hb ⊢; omega, h1, h2⟩
    · unfold glueL
      by_cases h : pre.length < (pre ++ jn [rest]).toArray.size
      · rw [if_pos h]
        simp [flat, jn]
      · rw [if_neg h]
        simp [jn] at h
        subst h
        rfl
  | r :: rs, rest, pre, T, hT, ok, oks, h0, hl, hb => by
    obtain ⟨r', rfl, hr'⟩ := oks r List.mem_cons_self
    have jcons : ∀ (a : Nat) (l : List Nat) (ls : List (List Nat)), jn ((a :: l) :: ls) = a :: jn (l :: ls) := fun a l ls => by cases ls <;> rfl
    have hTm : T = pre ++ (rest ++ 13 :: 10 :: 46 :: jn (r' :: rs)) := by rw [hT]; show pre ++ (rest ++ 13 :: 10 :: jn ((46 :: r') :: rs)) = _; rw [jcons]
    have hT' : T = (pre ++ rest ++ [13, 10, 46]) ++ jn (r' :: rs) := by rw [hTm]; simp
    have hlen : (pre ++ rest ++ [13, 10, 46]).length = pre.length + rest.length + 2 + 1 := by simp; omega
    obtain ⟨cuts, h1, h2, h3⟩ := cuts1_mid rs r' (pre ++ rest ++ [13, 10, 46]) T hT' hr' (fun r hr => oks r (List.mem_cons_of_mem _ hr)) (by omega) (by rw [hlen, show pre.length + rest.length + 2 + 1 - 1 = (pre ++ rest).length + 2 by simp, getD_app]; decide) hb
    rw [hlen] at h1 h3
    have hsize : T.toArray.size = pre.length + rest.length + 3 + (jn (r' :: rs)).length := by rw [hT']; simp; omega
    have hsz2 : T.length = pre.length + rest.length + 3 + (jn (r' :: rs)).length := by rw [← List.size_toArray]; exact hsize
    refine ⟨(pre.length + rest.length + 2, pre.length + rest.length + 2 + 1) :: cuts, .cons (by omega) (by omega) (by omega) ?_ h1, by simp at h2 ⊢; omega, ?_⟩
    · obtain ⟨m', g1, g2, g3, g4⟩ := search1_some (text := T.toArray) (s := pre.length) (e := pre.length + rest.length + 2) (lim := T.toArray.size) (by omega) (by omega) (fun i a b => by
          have h1 : (i == 0) = false := by simp; omega
          have h2 : (T.toArray.getD (i - 1) 0 == 10) = false := by
            rw [getD_arr, hTm, beq_eq_false_iff_ne]
            by_cases q : i - 1 < pre.length
            · rw [getD_lo _ _ _ q, show i - 1 = pre.length - 1 by omega]; exact hl
            · rw [show i - 1 = pre.length + (i - 1 - pre.length) by omega, getD_app]
              by_cases q2 : i - 1 - pre.length < rest.length
              · rw [getD_lo _ _ _ q2]; exact ok _ (getD_mem rest _ q2)
              · rw [show i - 1 - pre.length = rest.length + 0 by omega, getD_app]; show (13 : Nat) ≠ 10; decide
          rw [h1, h2]; rfl) (by
          have h2 : (T.toArray.getD (pre.length + rest.length + 2 - 1) 0 == 10) = true := by
            rw [getD_arr, hTm, show pre.length + rest.length + 2 - 1 = pre.length + (rest.length + 1) by omega, getD_app, getD_app]; rfl
          rw [h2, Bool.or_true]) (by rw [getD_arr, hTm, show pre.length + rest.length + 2 = pre.length + (rest.length + 2) by omega, getD_app, getD_app]; rfl)
      exact ⟨_, m', by omega, g1, g2, g3, g4⟩
    · show flat ((if pre.length < pre.length + rest.length + 2 then [⟨T.toArray.extract pre.length (pre.length + rest.length + 2)⟩] else []) ++ ⟨#[46, 46]⟩ :: glueL T.toArray ⟨#[46, 46]⟩ (pre.length + rest.length + 2 + 1) cuts) = _
      rw [if_pos (by omega)]
      have e : (T.toArray.extract pre.length (pre.length + rest.length + 2)).toList = rest ++ [13, 10] := by
        have := ext_mid pre (rest ++ [13, 10]) (46 :: jn (r' :: rs))
        rw [show pre ++ ((rest ++ [13, 10]) ++ 46 :: jn (r' :: rs)) = T by rw [hTm]; simp, (by simp : (rest ++ [13, 10] : List Nat).length = rest.length + 2), ← Nat.add_assoc] at this
        exact this
      show (T.toArray.extract pre.length (pre.length + rest.length + 2)).toList ++ ([46, 46] ++ flat _) = _
      rw [h3, e]
      show _ = rest ++ 13 :: 10 :: jn ((46 :: 46 :: r') :: rs.map (46 :: ·))
      rw [jcons, jcons]; simp
theorem cuts1 (rows : List (List Nat)) (oks : ∀ r ∈ rows, ∃ r', r = 46 :: r' ∧ ∀ c ∈ r', c ≠ 10) (hb : (jn rows).length ≤ 100000) :
    ∃ cuts, Cuts code1 (jn rows).toArray 0 cuts ∧ cuts.length ≤ rows.length ∧ flat (glueL (jn rows).toArray ⟨#[46, 46]⟩ 0 cuts) = jn (rows.map (46 :: ·)) := by
  cases rows with
  | nil =>
    refine ⟨[], .nil (Nat.zero_le _) ?_, Nat.le_refl _, rfl⟩
    obtain ⟨m', h1, h2⟩ := search1_none (text := (jn []).toArray) (s := 0) (lim := (jn []).toArray.size) fun i a b c => absurd c (by decide)
    exact ⟨_, m', by decide, h1, h2⟩
  | cons r rs =>
    obtain ⟨r', rfl, hr'⟩ := oks r List.mem_cons_self
    have jcons : ∀ (a : Nat) (l : List Nat) (ls : List (List Nat)), jn ((a :: l) :: ls) = a :: jn (l :: ls) := fun a l ls => by cases ls <;> rfl
    have hT : jn ((46 :: r') :: rs) = [46] ++ jn (r' :: rs) := jcons _ _ _
    obtain ⟨cuts, h1, h2, h3⟩ := cuts1_mid rs r' [46] (jn ((46 :: r') :: rs)) hT hr' (fun r hr => oks r (List.mem_cons_of_mem _ hr)) (by decide) (by decide) hb
    have hsize : (jn ((46 :: r') :: rs)).toArray.size = 1 + (jn (r' :: rs)).length := by rw [hT]; simp; omega
    refine ⟨(0, 1) :: cuts, .cons (Nat.le_refl _) (by decide) (by omega) ?_ h1, by simp; omega, ?_⟩
    · obtain ⟨m', g1, g2, g3, g4⟩ := search1_some (text := (jn ((46 :: r') :: rs)).toArray) (s := 0) (e := 0) (lim := (jn ((46 :: r') :: rs)).toArray.size) (Nat.le_refl _) (by omega) (fun i a b => by omega) rfl (by rw [getD_arr, hT]; rfl)
      exact ⟨_, m', by decide, g1, g2, g3, g4⟩
    · show [46, 46] ++ flat (glueL _ _ 1 cuts) = _
      rw [show (1 : Nat) = [46].length by rfl, h3]
      show _ = jn ((46 :: 46 :: r') :: rs.map (46 :: ·))
      rw [jcons, jcons]; rfl
end M3
end
-- part GN1
section
set_option maxRecDepth 100000
namespace M3
open PySem PySem.W PyProof.Rows
/-- the defs of the text, by their places -/
noncomputable def dTo (i : Nat) : Option Stmt := PySem.Challenge.pw_pg0303_02.main.body[i]?
noncomputable def dCl (i j : Nat) : Option Stmt := match dTo i with
  | some (.ClassDef _ _ _ b _ _ _ _ _ _ _) => b[j]?
  | _ => none
noncomputable def dPa : Option Stmt → Arguments
  | some (.FunctionDef _ a _ _ _ _ _ _ _ _) => a
  | _ => default
noncomputable def dBo : Option Stmt → List Stmt
  | some (.FunctionDef _ _ b _ _ _ _ _ _ _) => b
  | _ => []
noncomputable def dSc : Option Stmt → Scope
  | some (.FunctionDef _ _ _ _ _ _ s _ _ _) => s
  | _ => default
set_option maxHeartbeats 4000000 in
/-- the written part of the heap behind the top, as the program wip/PrintHeap.lean printed it -/
noncomputable def heapK : Params → Frag := fun P => [
  (2, (Obj.mk Value.none (Option.none) (Data.dict (List.toArray [(DictEntry.mk (PyData.keyHash P (Str.ofString "\x69mport.loaded._sre")) (Value.str (Str.ofString "\x69mport.loaded._sre") 183) (Value.bool Bool.true)), (DictEntry.mk (PyData.keyHash P (Str.ofString "class._frozen_importlib.BuiltinImporter")) (Value.str (Str.ofString "class._frozen_importlib.BuiltinImporter") 185) (Value.ref 14)), (DictEntry.mk (PyData.keyHash P (Str.ofString "watched.\x69mport")) (Value.str (Str.ofString "watched.\x69mport") 206) (Value.ref 18)), (DictEntry.mk (PyData.keyHash P (Str.ofString "class._frozen_importlib.ModuleSpec")) (Value.str (Str.ofString "class._frozen_importlib.ModuleSpec") 216) (Value.ref 22)), (DictEntry.mk (PyData.keyHash P (Str.ofString "sys.modules.booked-epoch")) (Value.str (Str.ofString "sys.modules.booked-epoch") 245) (Value.int (3 : Int) 0)), (DictEntry.mk (PyData.keyHash P (Str.ofString "\x69mport.later-laid._sre")) (Value.str (Str.ofString "\x69mport.later-laid._sre") 270) (Value.bool Bool.true)), (DictEntry.mk (PyData.keyHash P (Str.ofString "watched.library")) (Value.str (Str.ofString "watched.library") 272) (Value.ref 27)), (DictEntry.mk (PyData.keyHash P (Str.ofString "watched.library-objects")) (Value.str (Str.ofString "watched.library-objects") 0) (Value.str (Str.ofString "\x0c") 0)), (DictEntry.mk (PyData.keyHash P (Str.ofString "watched.library-deep._sre")) (Value.str (Str.ofString "watched.library-deep._sre") 273) (Value.str (Str.ofString "\x04\x00\x00\x0b\x04\x00\x00\x0b\x04\x00\x00\x03\x04\x00\x00\x0b\x08\x04dict\x02") 0))]) 9) (List.toArray []))),
  (3, (Obj.mk (Value.type "dict") (Option.none) (Data.dict (List.toArray [(DictEntry.mk (PyData.keyHash P (Str.ofString "__name__")) (Value.str (Str.ofString "__name__") 165) (Value.str (Str.ofString "law_pg0303_02") 671)), (DictEntry.mk (PyData.keyHash P (Str.ofString "__doc__")) (Value.str (Str.ofString "__doc__") 166) Value.none), (DictEntry.mk (PyData.keyHash P (Str.ofString "__package__")) (Value.str (Str.ofString "__package__") 167) Value.none), (DictEntry.mk (PyData.keyHash P (Str.ofString "__loader__")) (Value.str (Str.ofString "__loader__") 168) (Value.builtin "__main__.__loader__#\x6fpaque")), (DictEntry.mk (PyData.keyHash P (Str.ofString "__spec__")) (Value.str (Str.ofString "__spec__") 169) Value.none), (DictEntry.mk (PyData.keyHash P (Str.ofString "__annotations__")) (Value.str (Str.ofString "__annotations__") 170) (Value.ref 6)), (DictEntry.mk (PyData.keyHash P (Str.ofString "__builtins__")) (Value.str (Str.ofString "__builtins__") 171) (Value.ref 4)), (DictEntry.mk (PyData.keyHash P (Str.ofString "__file__")) (Value.str (Str.ofString "__file__") 173) (Value.str (Str.ofString "/claim/cut.py") 172)), (DictEntry.mk (PyData.keyHash P (Str.ofString "__cached__")) (Value.str (Str.ofString "__cached__") 174) Value.none), (DictEntry.mk (PyData.keyHash P (Str.ofString "_sre")) (Value.str (Str.ofString "_sre") 275) (Value.ref 12)), (DictEntry.mk (PyData.keyHash P (Str.ofString "_wall")) (Value.str (Str.ofString "_wall") 288) (Value.ref 38)), (DictEntry.mk (PyData.keyHash P (Str.ofString "Whitespace")) (Value.str (Str.ofString "Whitespace") 382) (Value.ref 100)), (DictEntry.mk (PyData.keyHash P (Str.ofString "_twin_re_1")) (Value.str (Str.ofString "_twin_re_1") 400) (Value.ref 109)), (DictEntry.mk (PyData.keyHash P (Str.ofString "_twin_re_2")) (Value.str (Str.ofString "_twin_re_2") 442) (Value.ref 114)), (DictEntry.mk (PyData.keyHash P (Str.ofString "CRLF")) (Value.str (Str.ofString "CRLF") 444) (Value.str (Str.ofString "\x0d\n") 443)), (DictEntry.mk (PyData.keyHash P (Str.ofString "quotedata")) (Value.str (Str.ofString "quotedata") 451) (Value.ref 121)), (DictEntry.mk (PyData.keyHash P (Str.ofString "_name_disallowed_re")) (Value.str (Str.ofString "_name_disallowed_re") 479) (Value.ref 126)), (DictEntry.mk (PyData.keyHash P (Str.ofString "_value_disallowed_re")) (Value.str (Str.ofString "_value_disallowed_re") 513) (Value.ref 131)), (DictEntry.mk (PyData.keyHash P (Str.ofString "Headers")) (Value.str (Str.ofString "Headers") 670) (Value.ref 254)), (DictEntry.mk (PyData.keyHash P (Str.ofString "_law_views")) (Value.str (Str.ofString "_law_views") 678) (Value.ref 263)), (DictEntry.mk (PyData.keyHash P (Str.ofString "_law_numbers")) (Value.str (Str.ofString "_law_numbers") 684) (Value.ref 268)), (DictEntry.mk (PyData.keyHash P (Str.ofString "_law_refined")) (Value.str (Str.ofString "_law_refined") 690) (Value.ref 273)), (DictEntry.mk (PyData.keyHash P (Str.ofString "_law_rows")) (Value.str (Str.ofString "_law_rows") 696) (Value.ref 278)), (DictEntry.mk (PyData.keyHash P (Str.ofString "_law_alike")) (Value.str (Str.ofString "_law_alike") 711) (Value.ref 285)), (DictEntry.mk (PyData.keyHash P (Str.ofString "law")) (Value.str (Str.ofString "law") 717) (Value.ref 290))]) 25) (List.toArray []))),
  (32, (Obj.mk (Value.type "tuple") (Option.none) (Data.seq (List.toArray []) 0) (List.toArray []))),
  (34, (Obj.mk (Value.type "tuple") (Option.none) (Data.seq (List.toArray [(Value.str (Str.ofString "k") 285)]) 0) (List.toArray []))),
  (35, (Obj.mk (Value.type "tuple") (Option.none) (Data.seq (List.toArray []) 0) (List.toArray []))),
  (37, (Obj.mk (Value.type "code") (Option.none) (Data.fields (List.toArray [(Value.str (Str.ofString "_wall") 282), (Value.str (Str.ofString "_wall") 283), (Value.str (Str.ofString "/claim/cut.py") 284), (Value.int (2 : Int) 0), (Value.int (1 : Int) 0), (Value.int (0 : Int) 0), (Value.int (0 : Int) 0), (Value.int (3 : Int) 0), (Value.ref 32), (Value.bool Bool.true), (Value.int (276 : Int) 0), (Value.ref 33), Value.none, (Value.ref 34), (Value.ref 35), (Value.ref 36), (Value.int (286 : Int) 0), (Value.int (2 : Int) 0), (Value.str (Str.ofString "/claim/cut.py") 287)])) (List.toArray []))),
  (38, (Obj.mk (Value.type "function") (Option.none) (Data.func (FuncData.mk (Str.ofString "_wall") (Str.ofString "_wall") (dPa (dTo 1)) (.stmts (dBo (dTo 1))) (dSc (dTo 1)) 3 [] Value.none Value.none Value.none (Value.str (Str.ofString "__main__") 164) (Option.none) (Value.ref 37) Value.none 0)) (List.toArray []))),
  (49, (Obj.mk (Value.type "tuple") (Option.none) (Data.seq (List.toArray []) 0) (List.toArray []))),
  (51, (Obj.mk (Value.type "tuple") (Option.none) (Data.seq (List.toArray [(Value.str (Str.ofString "self") 311), (Value.str (Str.ofString "ws") 312), (Value.str (Str.ofString "S") 313), (Value.str (Str.ofString "T") 314), (Value.str (Str.ofString "count") 315), (Value.str (Str.ofString "b") 316), (Value.str (Str.ofString "n") 317), (Value.str (Str.ofString "nt") 318), (Value.str (Str.ofString "ch") 319)]) 0) (List.toArray []))),
  (52, (Obj.mk (Value.type "tuple") (Option.none) (Data.seq (List.toArray []) 0) (List.toArray []))),
  (54, (Obj.mk (Value.type "code") (Option.none) (Data.fields (List.toArray [(Value.str (Str.ofString "__init__") 308), (Value.str (Str.ofString "Whitespace.__init__") 309), (Value.str (Str.ofString "/claim/cut.py") 310), (Value.int (9 : Int) 0), (Value.int (2 : Int) 0), (Value.int (0 : Int) 0), (Value.int (0 : Int) 0), (Value.int (3 : Int) 0), (Value.ref 49), (Value.bool Bool.true), (Value.int (276 : Int) 0), (Value.ref 50), Value.none, (Value.ref 51), (Value.ref 52), (Value.ref 53), (Value.int (320 : Int) 0), (Value.int (9 : Int) 0), (Value.str (Str.ofString "/claim/cut.py") 321)])) (List.toArray []))),
  (55, (Obj.mk (Value.type "function") (Option.none) (Data.func (FuncData.mk (Str.ofString "__init__") (Str.ofString "Whitespace.__init__") (dPa (dCl 3 1)) (.stmts (dBo (dCl 3 1))) (dSc (dCl 3 1)) 3 [] Value.none Value.none Value.none (Value.str (Str.ofString "cpy313.tabnanny") 289) (Option.none) (Value.ref 54) Value.none 0)) (List.toArray []))),
  (56, (Obj.mk (Value.type "tuple") (Option.none) (Data.seq (List.toArray []) 0) (List.toArray []))),
  (58, (Obj.mk (Value.type "tuple") (Option.none) (Data.seq (List.toArray [(Value.str (Str.ofString "self") 326)]) 0) (List.toArray []))),
  (59, (Obj.mk (Value.type "tuple") (Option.none) (Data.seq (List.toArray []) 0) (List.toArray []))),
  (61, (Obj.mk (Value.type "code") (Option.none) (Data.fields (List.toArray [(Value.str (Str.ofString "longest_run_of_spaces") 323), (Value.str (Str.ofString "Whitespace.longest_run_of_spaces") 324), (Value.str (Str.ofString "/claim/cut.py") 325), (Value.int (32 : Int) 0), (Value.int (1 : Int) 0), (Value.int (0 : Int) 0), (Value.int (0 : Int) 0), (Value.int (3 : Int) 0), (Value.ref 56), (Value.bool Bool.true), (Value.int (276 : Int) 0), (Value.ref 57), Value.none, (Value.ref 58), (Value.ref 59), (Value.ref 60), (Value.int (327 : Int) 0), (Value.int (32 : Int) 0), (Value.str (Str.ofString "/claim/cut.py") 328)])) (List.toArray []))),
  (62, (Obj.mk (Value.type "function") (Option.none) (Data.func (FuncData.mk (Str.ofString "longest_run_of_spaces") (Str.ofString "Whitespace.longest_run_of_spaces") (dPa (dCl 3 2)) (.stmts (dBo (dCl 3 2))) (dSc (dCl 3 2)) 3 [] Value.none Value.none Value.none (Value.str (Str.ofString "cpy313.tabnanny") 289) (Option.none) (Value.ref 61) Value.none 0)) (List.toArray []))),
  (63, (Obj.mk (Value.type "tuple") (Option.none) (Data.seq (List.toArray []) 0) (List.toArray []))),
  (65, (Obj.mk (Value.type "tuple") (Option.none) (Data.seq (List.toArray [(Value.str (Str.ofString "self") 333), (Value.str (Str.ofString "tabsize") 334)]) 0) (List.toArray []))),
  (66, (Obj.mk (Value.type "tuple") (Option.none) (Data.seq (List.toArray []) 0) (List.toArray []))),
  (68, (Obj.mk (Value.type "code") (Option.none) (Data.fields (List.toArray [(Value.str (Str.ofString "indent_level") 330), (Value.str (Str.ofString "Whitespace.indent_level") 331), (Value.str (Str.ofString "/claim/cut.py") 332), (Value.int (35 : Int) 0), (Value.int (2 : Int) 0), (Value.int (0 : Int) 0), (Value.int (0 : Int) 0), (Value.int (3 : Int) 0), (Value.ref 63), (Value.bool Bool.true), (Value.int (276 : Int) 0), (Value.ref 64), Value.none, (Value.ref 65), (Value.ref 66), (Value.ref 67), (Value.int (335 : Int) 0), (Value.int (35 : Int) 0), (Value.str (Str.ofString "/claim/cut.py") 336)])) (List.toArray []))),
  (69, (Obj.mk (Value.type "function") (Option.none) (Data.func (FuncData.mk (Str.ofString "indent_level") (Str.ofString "Whitespace.indent_level") (dPa (dCl 3 3)) (.stmts (dBo (dCl 3 3))) (dSc (dCl 3 3)) 3 [] Value.none Value.none Value.none (Value.str (Str.ofString "cpy313.tabnanny") 289) (Option.none) (Value.ref 68) Value.none 0)) (List.toArray []))),
  (70, (Obj.mk (Value.type "tuple") (Option.none) (Data.seq (List.toArray []) 0) (List.toArray []))),
  (72, (Obj.mk (Value.type "tuple") (Option.none) (Data.seq (List.toArray [(Value.str (Str.ofString "self") 341), (Value.str (Str.ofString "other") 342)]) 0) (List.toArray []))),
  (73, (Obj.mk (Value.type "tuple") (Option.none) (Data.seq (List.toArray []) 0) (List.toArray []))),
  (75, (Obj.mk (Value.type "code") (Option.none) (Data.fields (List.toArray [(Value.str (Str.ofString "equal") 338), (Value.str (Str.ofString "Whitespace.equal") 339), (Value.str (Str.ofString "/claim/cut.py") 340), (Value.int (38 : Int) 0), (Value.int (2 : Int) 0), (Value.int (0 : Int) 0), (Value.int (0 : Int) 0), (Value.int (3 : Int) 0), (Value.ref 70), (Value.bool Bool.true), (Value.int (276 : Int) 0), (Value.ref 71), Value.none, (Value.ref 72), (Value.ref 73), (Value.ref 74), (Value.int (343 : Int) 0), (Value.int (38 : Int) 0), (Value.str (Str.ofString "/claim/cut.py") 344)])) (List.toArray []))),
  (76, (Obj.mk (Value.type "function") (Option.none) (Data.func (FuncData.mk (Str.ofString "equal") (Str.ofString "Whitespace.equal") (dPa (dCl 3 4)) (.stmts (dBo (dCl 3 4))) (dSc (dCl 3 4)) 3 [] Value.none Value.none Value.none (Value.str (Str.ofString "cpy313.tabnanny") 289) (Option.none) (Value.ref 75) Value.none 0)) (List.toArray []))),
  (77, (Obj.mk (Value.type "tuple") (Option.none) (Data.seq (List.toArray []) 0) (List.toArray []))),
  (79, (Obj.mk (Value.type "tuple") (Option.none) (Data.seq (List.toArray [(Value.str (Str.ofString "self") 349), (Value.str (Str.ofString "other") 350)]) 0) (List.toArray []))),
  (80, (Obj.mk (Value.type "tuple") (Option.none) (Data.seq (List.toArray []) 0) (List.toArray []))),
  (82, (Obj.mk (Value.type "code") (Option.none) (Data.fields (List.toArray [(Value.str (Str.ofString "not_equal_witness") 346), (Value.str (Str.ofString "Whitespace.not_equal_witness") 347), (Value.str (Str.ofString "/claim/cut.py") 348), (Value.int (41 : Int) 0), (Value.int (2 : Int) 0), (Value.int (0 : Int) 0), (Value.int (0 : Int) 0), (Value.int (3 : Int) 0), (Value.ref 77), (Value.bool Bool.true), (Value.int (276 : Int) 0), (Value.ref 78), Value.none, (Value.ref 79), (Value.ref 80), (Value.ref 81), (Value.int (351 : Int) 0), (Value.int (41 : Int) 0), (Value.str (Str.ofString "/claim/cut.py") 352)])) (List.toArray []))),
  (83, (Obj.mk (Value.type "function") (Option.none) (Data.func (FuncData.mk (Str.ofString "not_equal_witness") (Str.ofString "Whitespace.not_equal_witness") (dPa (dCl 3 5)) (.stmts (dBo (dCl 3 5))) (dSc (dCl 3 5)) 3 [] Value.none Value.none Value.none (Value.str (Str.ofString "cpy313.tabnanny") 289) (Option.none) (Value.ref 82) Value.none 0)) (List.toArray []))),
  (84, (Obj.mk (Value.type "tuple") (Option.none) (Data.seq (List.toArray []) 0) (List.toArray []))),
  (86, (Obj.mk (Value.type "tuple") (Option.none) (Data.seq (List.toArray [(Value.str (Str.ofString "self") 357), (Value.str (Str.ofString "other") 358)]) 0) (List.toArray []))),
  (87, (Obj.mk (Value.type "tuple") (Option.none) (Data.seq (List.toArray []) 0) (List.toArray []))),
  (89, (Obj.mk (Value.type "code") (Option.none) (Data.fields (List.toArray [(Value.str (Str.ofString "less") 354), (Value.str (Str.ofString "Whitespace.less") 355), (Value.str (Str.ofString "/claim/cut.py") 356), (Value.int (44 : Int) 0), (Value.int (2 : Int) 0), (Value.int (0 : Int) 0), (Value.int (0 : Int) 0), (Value.int (3 : Int) 0), (Value.ref 84), (Value.bool Bool.true), (Value.int (276 : Int) 0), (Value.ref 85), Value.none, (Value.ref 86), (Value.ref 87), (Value.ref 88), (Value.int (359 : Int) 0), (Value.int (44 : Int) 0), (Value.str (Str.ofString "/claim/cut.py") 360)])) (List.toArray []))),
  (90, (Obj.mk (Value.type "function") (Option.none) (Data.func (FuncData.mk (Str.ofString "less") (Str.ofString "Whitespace.less") (dPa (dCl 3 6)) (.stmts (dBo (dCl 3 6))) (dSc (dCl 3 6)) 3 [] Value.none Value.none Value.none (Value.str (Str.ofString "cpy313.tabnanny") 289) (Option.none) (Value.ref 89) Value.none 0)) (List.toArray []))),
  (91, (Obj.mk (Value.type "tuple") (Option.none) (Data.seq (List.toArray []) 0) (List.toArray []))),
  (93, (Obj.mk (Value.type "tuple") (Option.none) (Data.seq (List.toArray [(Value.str (Str.ofString "self") 365), (Value.str (Str.ofString "other") 366)]) 0) (List.toArray []))),
  (94, (Obj.mk (Value.type "tuple") (Option.none) (Data.seq (List.toArray []) 0) (List.toArray []))),
  (96, (Obj.mk (Value.type "code") (Option.none) (Data.fields (List.toArray [(Value.str (Str.ofString "not_less_witness") 362), (Value.str (Str.ofString "Whitespace.not_less_witness") 363), (Value.str (Str.ofString "/claim/cut.py") 364), (Value.int (47 : Int) 0), (Value.int (2 : Int) 0), (Value.int (0 : Int) 0), (Value.int (0 : Int) 0), (Value.int (3 : Int) 0), (Value.ref 91), (Value.bool Bool.true), (Value.int (276 : Int) 0), (Value.ref 92), Value.none, (Value.ref 93), (Value.ref 94), (Value.ref 95), (Value.int (367 : Int) 0), (Value.int (47 : Int) 0), (Value.str (Str.ofString "/claim/cut.py") 368)])) (List.toArray []))),
  (97, (Obj.mk (Value.type "function") (Option.none) (Data.func (FuncData.mk (Str.ofString "not_less_witness") (Str.ofString "Whitespace.not_less_witness") (dPa (dCl 3 7)) (.stmts (dBo (dCl 3 7))) (dSc (dCl 3 7)) 3 [] Value.none Value.none Value.none (Value.str (Str.ofString "cpy313.tabnanny") 289) (Option.none) (Value.ref 96) Value.none 0)) (List.toArray []))),
  (98, (Obj.mk (Value.type "tuple") (Option.none) (Data.seq (List.toArray [(Value.str (Str.ofString "is_simple") 370), (Value.str (Str.ofString "n") 371), (Value.str (Str.ofString "norm") 372), (Value.str (Str.ofString "nt") 373), (Value.str (Str.ofString "raw") 374)]) 0) (List.toArray []))),
  (99, (Obj.mk (Value.type "dict") (Option.none) (Data.dict (List.toArray [(DictEntry.mk (PyData.keyHash P (Str.ofString "__module__")) (Value.str (Str.ofString "__module__") 298) (Value.str (Str.ofString "cpy313.tabnanny") 289)), (DictEntry.mk (PyData.keyHash P (Str.ofString "__firstlineno__")) (Value.str (Str.ofString "__firstlineno__") 302) (Value.int (6 : Int) 301)), (DictEntry.mk (PyData.keyHash P (Str.ofString "S")) (Value.str (Str.ofString "S") 306) (Value.str (Str.ofString " ") 304)), (DictEntry.mk (PyData.keyHash P (Str.ofString "T")) (Value.str (Str.ofString "T") 307) (Value.str (Str.ofString "\t") 305)), (DictEntry.mk (PyData.keyHash P (Str.ofString "__init__")) (Value.str (Str.ofString "__init__") 322) (Value.ref 55)), (DictEntry.mk (PyData.keyHash P (Str.ofString "longest_run_of_spaces")) (Value.str (Str.ofString "longest_run_of_spaces") 329) (Value.ref 62)), (DictEntry.mk (PyData.keyHash P (Str.ofString "indent_level")) (Value.str (Str.ofString "indent_level") 337) (Value.ref 69)), (DictEntry.mk (PyData.keyHash P (Str.ofString "equal")) (Value.str (Str.ofString "equal") 345) (Value.ref 76)), (DictEntry.mk (PyData.keyHash P (Str.ofString "not_equal_witness")) (Value.str (Str.ofString "not_equal_witness") 353) (Value.ref 83)), (DictEntry.mk (PyData.keyHash P (Str.ofString "less")) (Value.str (Str.ofString "less") 361) (Value.ref 90)), (DictEntry.mk (PyData.keyHash P (Str.ofString "not_less_witness")) (Value.str (Str.ofString "not_less_witness") 369) (Value.ref 97)), (DictEntry.mk (PyData.keyHash P (Str.ofString "__static_attributes__")) (Value.str (Str.ofString "__static_attributes__") 375) (Value.ref 98)), (DictEntry.mk (PyData.keyHash P (Str.ofString "__dict__")) (Value.str (Str.ofString "__dict__") 377) (Value.ref 101)), (DictEntry.mk (PyData.keyHash P (Str.ofString "__weakref__")) (Value.str (Str.ofString "__weakref__") 379) (Value.ref 102)), (DictEntry.mk (PyData.keyHash P (Str.ofString "__doc__")) (Value.str (Str.ofString "__doc__") 380) Value.none)]) 4) (List.toArray []))),
  (100, (Obj.mk (Value.type "type") (Option.none) (Data.cls (ClassData.mk (Str.ofString "Whitespace") [(Value.type "object")] [(Value.ref 100), (Value.type "object")] 99 (Str.ofString "Whitespace") Bool.true [] [] Bool.false (Option.none) Bool.false)) (List.toArray [(Option.none), (Option.none), (Option.some (Value.str (Str.ofString "Whitespace") 291)), (Option.some (Value.str (Str.ofString "Whitespace") 299)), (Option.some (Value.builtin "object.__new__")), (Option.some (Value.bool Bool.true))]))),
  (101, (Obj.mk (Value.type "getset_descriptor") (Option.none) (Data.fields (List.toArray [(Value.str (Str.ofString "__dict__") 376), (Value.ref 100), (Value.builtin "function.__dict__"), (Value.builtin "function.__dict__#set")])) (List.toArray []))),
  (102, (Obj.mk (Value.type "getset_descriptor") (Option.none) (Data.fields (List.toArray [(Value.str (Str.ofString "__weakref__") 378), (Value.ref 100), (Value.builtin "ExceptionGroup.__weakref__"), Value.none])) (List.toArray []))),
  (108, (Obj.mk (Value.type "tuple") (Option.none) (Data.seq (List.toArray [(Value.int (14 : Int) 0), (Value.int (4 : Int) 0), (Value.int (0 : Int) 0), (Value.int (1 : Int) 0), (Value.int (1 : Int) 0), (Value.int (6 : Int) 0), (Value.int (1 : Int) 0), (Value.int (16 : Int) 0), (Value.int (46 : Int) 0), (Value.int (1 : Int) 0)]) 0) (List.toArray []))),
  (109, (Obj.mk (Value.type "re.Pattern") (Option.none) (Data.fields (List.toArray [(Value.str (Str.ofString "(?m)^\\.") 386), (Value.int (40 : Int) 399), (Value.int (0 : Int) 0), Value.none, Value.none, (Value.ref 108), (Value.int (0 : Int) 0)])) (List.toArray []))),
  (113, (Obj.mk (Value.type "tuple") (Option.none) (Data.seq (List.toArray [(Value.int (14 : Int) 0), (Value.int (9 : Int) 0), (Value.int (4 : Int) 0), (Value.int (1 : Int) 0), (Value.int (2 : Int) 0), (Value.int (16 : Int) 0), (Value.int (10 : Int) 0), (Value.int (16 : Int) 0), (Value.int (13 : Int) 0), (Value.int (0 : Int) 0), (Value.int (7 : Int) 0), (Value.int (7 : Int) 0), (Value.int (16 : Int) 0), (Value.int (13 : Int) 0), (Value.int (16 : Int) 0), (Value.int (10 : Int) 0), (Value.int (15 : Int) 0), (Value.int (18 : Int) 0), (Value.int (5 : Int) 0), (Value.int (16 : Int) 0), (Value.int (10 : Int) 0), (Value.int (15 : Int) 0), (Value.int (13 : Int) 0), (Value.int (11 : Int) 0), (Value.int (16 : Int) 0), (Value.int (13 : Int) 0), (Value.int (5 : Int) 0), (Value.int (5 : Int) 0), (Value.int (0 : Int) 0), (Value.int (16 : Int) 0), (Value.int (10 : Int) 0), (Value.int (1 : Int) 0), (Value.int (15 : Int) 0), (Value.int (2 : Int) 0), (Value.int (0 : Int) 0), (Value.int (1 : Int) 0)]) 0) (List.toArray []))),
  (114, (Obj.mk (Value.type "re.Pattern") (Option.none) (Data.fields (List.toArray [(Value.str (Str.ofString "(?:\\r\\n|\\n|\\r(?!\\n))") 402), (Value.int (32 : Int) 441), (Value.int (0 : Int) 0), Value.none, Value.none, (Value.ref 113), (Value.int (0 : Int) 0)])) (List.toArray []))),
  (115, (Obj.mk (Value.type "tuple") (Option.none) (Data.seq (List.toArray []) 0) (List.toArray []))),
  (117, (Obj.mk (Value.type "tuple") (Option.none) (Data.seq (List.toArray [(Value.str (Str.ofString "data") 448)]) 0) (List.toArray []))),
  (118, (Obj.mk (Value.type "tuple") (Option.none) (Data.seq (List.toArray []) 0) (List.toArray []))),
  (120, (Obj.mk (Value.type "code") (Option.none) (Data.fields (List.toArray [(Value.str (Str.ofString "quotedata") 445), (Value.str (Str.ofString "quotedata") 446), (Value.str (Str.ofString "/claim/cut.py") 447), (Value.int (53 : Int) 0), (Value.int (1 : Int) 0), (Value.int (0 : Int) 0), (Value.int (0 : Int) 0), (Value.int (3 : Int) 0), (Value.ref 115), (Value.bool Bool.true), (Value.int (276 : Int) 0), (Value.ref 116), Value.none, (Value.ref 117), (Value.ref 118), (Value.ref 119), (Value.int (449 : Int) 0), (Value.int (53 : Int) 0), (Value.str (Str.ofString "/claim/cut.py") 450)])) (List.toArray []))),
  (121, (Obj.mk (Value.type "function") (Option.none) (Data.func (FuncData.mk (Str.ofString "quotedata") (Str.ofString "quotedata") (dPa (dTo 8)) (.stmts (dBo (dTo 8))) (dSc (dTo 8)) 3 [] Value.none Value.none Value.none (Value.str (Str.ofString "cpy313.smtplib") 383) (Option.none) (Value.ref 120) Value.none 0)) (List.toArray []))),
  (125, (Obj.mk (Value.type "tuple") (Option.none) (Data.seq (List.toArray [(Value.int (14 : Int) 0), (Value.int (10 : Int) 0), (Value.int (4 : Int) 0), (Value.int (1 : Int) 0), (Value.int (1 : Int) 0), (Value.int (22 : Int) 0), (Value.int (0 : Int) 0), (Value.int (31 : Int) 0), (Value.int (16 : Int) 0), (Value.int (127 : Int) 0), (Value.int (0 : Int) 0), (Value.int (13 : Int) 0), (Value.int (7 : Int) 0), (Value.int (22 : Int) 0), (Value.int (0 : Int) 0), (Value.int (31 : Int) 0), (Value.int (16 : Int) 0), (Value.int (127 : Int) 0), (Value.int (0 : Int) 0), (Value.int (1 : Int) 0)]) 0) (List.toArray []))),
  (126, (Obj.mk (Value.type "re.Pattern") (Option.none) (Data.fields (List.toArray [(Value.str (Str.ofString "[\\x00-\\x1F\\x7F]") 455), (Value.int (32 : Int) 478), (Value.int (0 : Int) 0), Value.none, Value.none, (Value.ref 125), (Value.int (0 : Int) 0)])) (List.toArray []))),
  (130, (Obj.mk (Value.type "tuple") (Option.none) (Data.seq (List.toArray [(Value.int (14 : Int) 0), (Value.int (14 : Int) 0), (Value.int (4 : Int) 0), (Value.int (1 : Int) 0), (Value.int (1 : Int) 0), (Value.int (9 : Int) 0), (Value.int (4294966783 : Int) 0), (Value.int (0 : Int) 0), (Value.int (0 : Int) 0), (Value.int (2147483648 : Int) 0), (Value.int (0 : Int) 0), (Value.int (0 : Int) 0), (Value.int (0 : Int) 0), (Value.int (0 : Int) 0), (Value.int (0 : Int) 0), (Value.int (13 : Int) 0), (Value.int (11 : Int) 0), (Value.int (9 : Int) 0), (Value.int (4294966783 : Int) 0), (Value.int (0 : Int) 0), (Value.int (0 : Int) 0), (Value.int (2147483648 : Int) 0), (Value.int (0 : Int) 0), (Value.int (0 : Int) 0), (Value.int (0 : Int) 0), (Value.int (0 : Int) 0), (Value.int (0 : Int) 0), (Value.int (1 : Int) 0)]) 0) (List.toArray []))),
  (131, (Obj.mk (Value.type "re.Pattern") (Option.none) (Data.fields (List.toArray [(Value.str (Str.ofString "[\\x00-\\x08\\x0A-\\x1F\\x7F]") 481), (Value.int (32 : Int) 512), (Value.int (0 : Int) 0), Value.none, Value.none, (Value.ref 130), (Value.int (0 : Int) 0)])) (List.toArray []))),
  (139, (Obj.mk (Value.type "tuple") (Option.none) (Data.seq (List.toArray [Value.none]) 0) (List.toArray []))),
  (140, (Obj.mk (Value.type "tuple") (Option.none) (Data.seq (List.toArray []) 0) (List.toArray []))),
  (142, (Obj.mk (Value.type "tuple") (Option.none) (Data.seq (List.toArray [(Value.str (Str.ofString "self") 529), (Value.str (Str.ofString "headers") 530), (Value.str (Str.ofString "k") 531), (Value.str (Str.ofString "v") 532)]) 0) (List.toArray []))),
  (143, (Obj.mk (Value.type "tuple") (Option.none) (Data.seq (List.toArray []) 0) (List.toArray []))),
  (145, (Obj.mk (Value.type "code") (Option.none) (Data.fields (List.toArray [(Value.str (Str.ofString "__init__") 526), (Value.str (Str.ofString "Headers.__init__") 527), (Value.str (Str.ofString "/claim/cut.py") 528), (Value.int (60 : Int) 0), (Value.int (2 : Int) 0), (Value.int (0 : Int) 0), (Value.int (0 : Int) 0), (Value.int (3 : Int) 0), (Value.ref 140), (Value.bool Bool.true), (Value.int (276 : Int) 0), (Value.ref 141), Value.none, (Value.ref 142), (Value.ref 143), (Value.ref 144), (Value.int (533 : Int) 0), (Value.int (60 : Int) 0), (Value.str (Str.ofString "/claim/cut.py") 534)])) (List.toArray []))),
  (146, (Obj.mk (Value.type "function") (Option.none) (Data.func (FuncData.mk (Str.ofString "__init__") (Str.ofString "Headers.__init__") (dPa (dCl 12 0)) (.stmts (dBo (dCl 12 0))) (dSc (dCl 12 0)) 3 [] (Value.ref 139) Value.none Value.none (Value.str (Str.ofString "cpy313.wsgiref.headers") 452) (Option.none) (Value.ref 145) Value.none 0)) (List.toArray []))),
  (147, (Obj.mk (Value.type "tuple") (Option.none) (Data.seq (List.toArray []) 0) (List.toArray []))),
  (149, (Obj.mk (Value.type "tuple") (Option.none) (Data.seq (List.toArray [(Value.str (Str.ofString "self") 539), (Value.str (Str.ofString "value") 540), (Value.str (Str.ofString "name") 541), (Value.str (Str.ofString "regex") 542)]) 0) (List.toArray []))),
  (150, (Obj.mk (Value.type "tuple") (Option.none) (Data.seq (List.toArray []) 0) (List.toArray []))),
  (152, (Obj.mk (Value.type "code") (Option.none) (Data.fields (List.toArray [(Value.str (Str.ofString "_convert_string_type") 536), (Value.str (Str.ofString "Headers._convert_string_type") 537), (Value.str (Str.ofString "/claim/cut.py") 538), (Value.int (70 : Int) 0), (Value.int (2 : Int) 0), (Value.int (0 : Int) 0), (Value.int (1 : Int) 0), (Value.int (3 : Int) 0), (Value.ref 147), (Value.bool Bool.true), (Value.int (276 : Int) 0), (Value.ref 148), Value.none, (Value.ref 149), (Value.ref 150), (Value.ref 151), (Value.int (543 : Int) 0), (Value.int (70 : Int) 0), (Value.str (Str.ofString "/claim/cut.py") 544)])) (List.toArray []))),
  (153, (Obj.mk (Value.type "function") (Option.none) (Data.func (FuncData.mk (Str.ofString "_convert_string_type") (Str.ofString "Headers._convert_string_type") (dPa (dCl 12 1)) (.stmts (dBo (dCl 12 1))) (dSc (dCl 12 1)) 3 [] Value.none Value.none Value.none (Value.str (Str.ofString "cpy313.wsgiref.headers") 452) (Option.none) (Value.ref 152) Value.none 0)) (List.toArray []))),
  (154, (Obj.mk (Value.type "tuple") (Option.none) (Data.seq (List.toArray []) 0) (List.toArray []))),
  (156, (Obj.mk (Value.type "tuple") (Option.none) (Data.seq (List.toArray [(Value.str (Str.ofString "self") 549)]) 0) (List.toArray []))),
  (157, (Obj.mk (Value.type "tuple") (Option.none) (Data.seq (List.toArray []) 0) (List.toArray []))),
  (159, (Obj.mk (Value.type "code") (Option.none) (Data.fields (List.toArray [(Value.str (Str.ofString "__len__") 546), (Value.str (Str.ofString "Headers.__len__") 547), (Value.str (Str.ofString "/claim/cut.py") 548), (Value.int (78 : Int) 0), (Value.int (1 : Int) 0), (Value.int (0 : Int) 0), (Value.int (0 : Int) 0), (Value.int (3 : Int) 0), (Value.ref 154), (Value.bool Bool.true), (Value.int (276 : Int) 0), (Value.ref 155), Value.none, (Value.ref 156), (Value.ref 157), (Value.ref 158), (Value.int (550 : Int) 0), (Value.int (78 : Int) 0), (Value.str (Str.ofString "/claim/cut.py") 551)])) (List.toArray []))),
  (160, (Obj.mk (Value.type "function") (Option.none) (Data.func (FuncData.mk (Str.ofString "__len__") (Str.ofString "Headers.__len__") (dPa (dCl 12 2)) (.stmts (dBo (dCl 12 2))) (dSc (dCl 12 2)) 3 [] Value.none Value.none Value.none (Value.str (Str.ofString "cpy313.wsgiref.headers") 452) (Option.none) (Value.ref 159) Value.none 0)) (List.toArray []))),
  (161, (Obj.mk (Value.type "tuple") (Option.none) (Data.seq (List.toArray []) 0) (List.toArray []))),
  (163, (Obj.mk (Value.type "tuple") (Option.none) (Data.seq (List.toArray [(Value.str (Str.ofString "self") 556), (Value.str (Str.ofString "name") 557), (Value.str (Str.ofString "val") 558)]) 0) (List.toArray []))),
  (164, (Obj.mk (Value.type "tuple") (Option.none) (Data.seq (List.toArray []) 0) (List.toArray []))),
  (166, (Obj.mk (Value.type "code") (Option.none) (Data.fields (List.toArray [(Value.str (Str.ofString "__setitem__") 553), (Value.str (Str.ofString "Headers.__setitem__") 554), (Value.str (Str.ofString "/claim/cut.py") 555), (Value.int (81 : Int) 0), (Value.int (3 : Int) 0), (Value.int (0 : Int) 0), (Value.int (0 : Int) 0), (Value.int (3 : Int) 0), (Value.ref 161), (Value.bool Bool.true), (Value.int (276 : Int) 0), (Value.ref 162), Value.none, (Value.ref 163), (Value.ref 164), (Value.ref 165), (Value.int (559 : Int) 0), (Value.int (81 : Int) 0), (Value.str (Str.ofString "/claim/cut.py") 560)])) (List.toArray []))),
  (167, (Obj.mk (Value.type "function") (Option.none) (Data.func (FuncData.mk (Str.ofString "__setitem__") (Str.ofString "Headers.__setitem__") (dPa (dCl 12 3)) (.stmts (dBo (dCl 12 3))) (dSc (dCl 12 3)) 3 [] Value.none Value.none Value.none (Value.str (Str.ofString "cpy313.wsgiref.headers") 452) (Option.none) (Value.ref 166) Value.none 0)) (List.toArray []))),
  (168, (Obj.mk (Value.type "tuple") (Option.none) (Data.seq (List.toArray []) 0) (List.toArray []))),
  (171, (Obj.mk (Value.type "code") (Option.none) (Data.fields (List.toArray [(Value.str (Str.ofString "__delitem__") 562), (Value.str (Str.ofString "Headers.__delitem__") 563), (Value.str (Str.ofString "/claim/cut.py") 564), (Value.int (85 : Int) 0), (Value.int (2 : Int) 0), (Value.int (0 : Int) 0), (Value.int (0 : Int) 0), (Value.int (3 : Int) 0), (Value.ref 168), (Value.bool Bool.true), (Value.int (276 : Int) 0), (Value.ref 169), Value.none, Value.none, Value.none, (Value.ref 170), (Value.int (565 : Int) 0), (Value.int (85 : Int) 0), (Value.str (Str.ofString "/claim/cut.py") 566)])) (List.toArray []))),
  (172, (Obj.mk (Value.type "function") (Option.none) (Data.func (FuncData.mk (Str.ofString "__delitem__") (Str.ofString "Headers.__delitem__") (dPa (dCl 12 4)) (.stmts (dBo (dCl 12 4))) (dSc (dCl 12 4)) 3 [] Value.none Value.none Value.none (Value.str (Str.ofString "cpy313.wsgiref.headers") 452) (Option.none) (Value.ref 171) Value.none 0)) (List.toArray []))),
  (173, (Obj.mk (Value.type "tuple") (Option.none) (Data.seq (List.toArray []) 0) (List.toArray []))),
  (175, (Obj.mk (Value.type "tuple") (Option.none) (Data.seq (List.toArray [(Value.str (Str.ofString "self") 571), (Value.str (Str.ofString "name") 572)]) 0) (List.toArray []))),
  (176, (Obj.mk (Value.type "tuple") (Option.none) (Data.seq (List.toArray []) 0) (List.toArray []))),
  (178, (Obj.mk (Value.type "code") (Option.none) (Data.fields (List.toArray [(Value.str (Str.ofString "__getitem__") 568), (Value.str (Str.ofString "Headers.__getitem__") 569), (Value.str (Str.ofString "/claim/cut.py") 570), (Value.int (89 : Int) 0), (Value.int (2 : Int) 0), (Value.int (0 : Int) 0), (Value.int (0 : Int) 0), (Value.int (3 : Int) 0), (Value.ref 173), (Value.bool Bool.true), (Value.int (276 : Int) 0), (Value.ref 174), Value.none, (Value.ref 175), (Value.ref 176), (Value.ref 177), (Value.int (573 : Int) 0), (Value.int (89 : Int) 0), (Value.str (Str.ofString "/claim/cut.py") 574)])) (List.toArray []))),
  (179, (Obj.mk (Value.type "function") (Option.none) (Data.func (FuncData.mk (Str.ofString "__getitem__") (Str.ofString "Headers.__getitem__") (dPa (dCl 12 5)) (.stmts (dBo (dCl 12 5))) (dSc (dCl 12 5)) 3 [] Value.none Value.none Value.none (Value.str (Str.ofString "cpy313.wsgiref.headers") 452) (Option.none) (Value.ref 178) Value.none 0)) (List.toArray []))),
  (180, (Obj.mk (Value.type "tuple") (Option.none) (Data.seq (List.toArray []) 0) (List.toArray []))),
  (182, (Obj.mk (Value.type "tuple") (Option.none) (Data.seq (List.toArray [(Value.str (Str.ofString "self") 579), (Value.str (Str.ofString "name") 580)]) 0) (List.toArray []))),
  (183, (Obj.mk (Value.type "tuple") (Option.none) (Data.seq (List.toArray []) 0) (List.toArray []))),
  (185, (Obj.mk (Value.type "code") (Option.none) (Data.fields (List.toArray [(Value.str (Str.ofString "__contains__") 576), (Value.str (Str.ofString "Headers.__contains__") 577), (Value.str (Str.ofString "/claim/cut.py") 578), (Value.int (92 : Int) 0), (Value.int (2 : Int) 0), (Value.int (0 : Int) 0), (Value.int (0 : Int) 0), (Value.int (3 : Int) 0), (Value.ref 180), (Value.bool Bool.true), (Value.int (276 : Int) 0), (Value.ref 181), Value.none, (Value.ref 182), (Value.ref 183), (Value.ref 184), (Value.int (581 : Int) 0), (Value.int (92 : Int) 0), (Value.str (Str.ofString "/claim/cut.py") 582)])) (List.toArray []))),
  (186, (Obj.mk (Value.type "function") (Option.none) (Data.func (FuncData.mk (Str.ofString "__contains__") (Str.ofString "Headers.__contains__") (dPa (dCl 12 6)) (.stmts (dBo (dCl 12 6))) (dSc (dCl 12 6)) 3 [] Value.none Value.none Value.none (Value.str (Str.ofString "cpy313.wsgiref.headers") 452) (Option.none) (Value.ref 185) Value.none 0)) (List.toArray []))),
  (187, (Obj.mk (Value.type "tuple") (Option.none) (Data.seq (List.toArray []) 0) (List.toArray []))),
  (189, (Obj.mk (Value.type "tuple") (Option.none) (Data.seq (List.toArray [(Value.str (Str.ofString "self") 587), (Value.str (Str.ofString "name") 588)]) 0) (List.toArray []))),
  (190, (Obj.mk (Value.type "tuple") (Option.none) (Data.seq (List.toArray []) 0) (List.toArray []))),
  (192, (Obj.mk (Value.type "code") (Option.none) (Data.fields (List.toArray [(Value.str (Str.ofString "get_all") 584), (Value.str (Str.ofString "Headers.get_all") 585), (Value.str (Str.ofString "/claim/cut.py") 586), (Value.int (95 : Int) 0), (Value.int (2 : Int) 0), (Value.int (0 : Int) 0), (Value.int (0 : Int) 0), (Value.int (3 : Int) 0), (Value.ref 187), (Value.bool Bool.true), (Value.int (276 : Int) 0), (Value.ref 188), Value.none, (Value.ref 189), (Value.ref 190), (Value.ref 191), (Value.int (589 : Int) 0), (Value.int (95 : Int) 0), (Value.str (Str.ofString "/claim/cut.py") 590)])) (List.toArray []))),
  (193, (Obj.mk (Value.type "function") (Option.none) (Data.func (FuncData.mk (Str.ofString "get_all") (Str.ofString "Headers.get_all") (dPa (dCl 12 7)) (.stmts (dBo (dCl 12 7))) (dSc (dCl 12 7)) 3 [] Value.none Value.none Value.none (Value.str (Str.ofString "cpy313.wsgiref.headers") 452) (Option.none) (Value.ref 192) Value.none 0)) (List.toArray []))),
  (194, (Obj.mk (Value.type "tuple") (Option.none) (Data.seq (List.toArray [Value.none]) 0) (List.toArray []))),
  (195, (Obj.mk (Value.type "tuple") (Option.none) (Data.seq (List.toArray []) 0) (List.toArray []))),
  (197, (Obj.mk (Value.type "tuple") (Option.none) (Data.seq (List.toArray [(Value.str (Str.ofString "self") 595), (Value.str (Str.ofString "name") 596), (Value.str (Str.ofString "default") 597), (Value.str (Str.ofString "k") 598), (Value.str (Str.ofString "v") 599)]) 0) (List.toArray []))),
  (198, (Obj.mk (Value.type "tuple") (Option.none) (Data.seq (List.toArray []) 0) (List.toArray []))),
  (200, (Obj.mk (Value.type "code") (Option.none) (Data.fields (List.toArray [(Value.str (Str.ofString "get") 592), (Value.str (Str.ofString "Headers.get") 593), (Value.str (Str.ofString "/claim/cut.py") 594), (Value.int (98 : Int) 0), (Value.int (3 : Int) 0), (Value.int (0 : Int) 0), (Value.int (0 : Int) 0), (Value.int (3 : Int) 0), (Value.ref 195), (Value.bool Bool.true), (Value.int (276 : Int) 0), (Value.ref 196), Value.none, (Value.ref 197), (Value.ref 198), (Value.ref 199), (Value.int (600 : Int) 0), (Value.int (98 : Int) 0), (Value.str (Str.ofString "/claim/cut.py") 601)])) (List.toArray []))),
  (201, (Obj.mk (Value.type "function") (Option.none) (Data.func (FuncData.mk (Str.ofString "get") (Str.ofString "Headers.get") (dPa (dCl 12 8)) (.stmts (dBo (dCl 12 8))) (dSc (dCl 12 8)) 3 [] (Value.ref 194) Value.none Value.none (Value.str (Str.ofString "cpy313.wsgiref.headers") 452) (Option.none) (Value.ref 200) Value.none 0)) (List.toArray []))),
  (202, (Obj.mk (Value.type "tuple") (Option.none) (Data.seq (List.toArray []) 0) (List.toArray []))),
  (205, (Obj.mk (Value.type "code") (Option.none) (Data.fields (List.toArray [(Value.str (Str.ofString "keys") 603), (Value.str (Str.ofString "Headers.keys") 604), (Value.str (Str.ofString "/claim/cut.py") 605), (Value.int (105 : Int) 0), (Value.int (1 : Int) 0), (Value.int (0 : Int) 0), (Value.int (0 : Int) 0), (Value.int (3 : Int) 0), (Value.ref 202), (Value.bool Bool.true), (Value.int (276 : Int) 0), (Value.ref 203), Value.none, Value.none, Value.none, (Value.ref 204), (Value.int (606 : Int) 0), (Value.int (105 : Int) 0), (Value.str (Str.ofString "/claim/cut.py") 607)])) (List.toArray []))),
  (206, (Obj.mk (Value.type "function") (Option.none) (Data.func (FuncData.mk (Str.ofString "keys") (Str.ofString "Headers.keys") (dPa (dCl 12 9)) (.stmts (dBo (dCl 12 9))) (dSc (dCl 12 9)) 3 [] Value.none Value.none Value.none (Value.str (Str.ofString "cpy313.wsgiref.headers") 452) (Option.none) (Value.ref 205) Value.none 0)) (List.toArray []))),
  (207, (Obj.mk (Value.type "tuple") (Option.none) (Data.seq (List.toArray []) 0) (List.toArray []))),
  (210, (Obj.mk (Value.type "code") (Option.none) (Data.fields (List.toArray [(Value.str (Str.ofString "values") 609), (Value.str (Str.ofString "Headers.values") 610), (Value.str (Str.ofString "/claim/cut.py") 611), (Value.int (108 : Int) 0), (Value.int (1 : Int) 0), (Value.int (0 : Int) 0), (Value.int (0 : Int) 0), (Value.int (3 : Int) 0), (Value.ref 207), (Value.bool Bool.true), (Value.int (276 : Int) 0), (Value.ref 208), Value.none, Value.none, Value.none, (Value.ref 209), (Value.int (612 : Int) 0), (Value.int (108 : Int) 0), (Value.str (Str.ofString "/claim/cut.py") 613)])) (List.toArray []))),
  (211, (Obj.mk (Value.type "function") (Option.none) (Data.func (FuncData.mk (Str.ofString "values") (Str.ofString "Headers.values") (dPa (dCl 12 10)) (.stmts (dBo (dCl 12 10))) (dSc (dCl 12 10)) 3 [] Value.none Value.none Value.none (Value.str (Str.ofString "cpy313.wsgiref.headers") 452) (Option.none) (Value.ref 210) Value.none 0)) (List.toArray []))),
  (212, (Obj.mk (Value.type "tuple") (Option.none) (Data.seq (List.toArray []) 0) (List.toArray []))),
  (214, (Obj.mk (Value.type "tuple") (Option.none) (Data.seq (List.toArray [(Value.str (Str.ofString "self") 618)]) 0) (List.toArray []))),
  (215, (Obj.mk (Value.type "tuple") (Option.none) (Data.seq (List.toArray []) 0) (List.toArray []))),
  (217, (Obj.mk (Value.type "code") (Option.none) (Data.fields (List.toArray [(Value.str (Str.ofString "items") 615), (Value.str (Str.ofString "Headers.items") 616), (Value.str (Str.ofString "/claim/cut.py") 617), (Value.int (111 : Int) 0), (Value.int (1 : Int) 0), (Value.int (0 : Int) 0), (Value.int (0 : Int) 0), (Value.int (3 : Int) 0), (Value.ref 212), (Value.bool Bool.true), (Value.int (276 : Int) 0), (Value.ref 213), Value.none, (Value.ref 214), (Value.ref 215), (Value.ref 216), (Value.int (619 : Int) 0), (Value.int (111 : Int) 0), (Value.str (Str.ofString "/claim/cut.py") 620)])) (List.toArray []))),
  (218, (Obj.mk (Value.type "function") (Option.none) (Data.func (FuncData.mk (Str.ofString "items") (Str.ofString "Headers.items") (dPa (dCl 12 11)) (.stmts (dBo (dCl 12 11))) (dSc (dCl 12 11)) 3 [] Value.none Value.none Value.none (Value.str (Str.ofString "cpy313.wsgiref.headers") 452) (Option.none) (Value.ref 217) Value.none 0)) (List.toArray []))),
  (219, (Obj.mk (Value.type "tuple") (Option.none) (Data.seq (List.toArray []) 0) (List.toArray []))),
  (221, (Obj.mk (Value.type "tuple") (Option.none) (Data.seq (List.toArray [(Value.str (Str.ofString "self") 625)]) 0) (List.toArray []))),
  (222, (Obj.mk (Value.type "tuple") (Option.none) (Data.seq (List.toArray []) 0) (List.toArray []))),
  (224, (Obj.mk (Value.type "code") (Option.none) (Data.fields (List.toArray [(Value.str (Str.ofString "__repr__") 622), (Value.str (Str.ofString "Headers.__repr__") 623), (Value.str (Str.ofString "/claim/cut.py") 624), (Value.int (114 : Int) 0), (Value.int (1 : Int) 0), (Value.int (0 : Int) 0), (Value.int (0 : Int) 0), (Value.int (3 : Int) 0), (Value.ref 219), (Value.bool Bool.true), (Value.int (276 : Int) 0), (Value.ref 220), Value.none, (Value.ref 221), (Value.ref 222), (Value.ref 223), (Value.int (626 : Int) 0), (Value.int (114 : Int) 0), (Value.str (Str.ofString "/claim/cut.py") 627)])) (List.toArray []))),
  (225, (Obj.mk (Value.type "function") (Option.none) (Data.func (FuncData.mk (Str.ofString "__repr__") (Str.ofString "Headers.__repr__") (dPa (dCl 12 12)) (.stmts (dBo (dCl 12 12))) (dSc (dCl 12 12)) 3 [] Value.none Value.none Value.none (Value.str (Str.ofString "cpy313.wsgiref.headers") 452) (Option.none) (Value.ref 224) Value.none 0)) (List.toArray []))),
  (226, (Obj.mk (Value.type "tuple") (Option.none) (Data.seq (List.toArray []) 0) (List.toArray []))),
  (229, (Obj.mk (Value.type "code") (Option.none) (Data.fields (List.toArray [(Value.str (Str.ofString "__str__") 629), (Value.str (Str.ofString "Headers.__str__") 630), (Value.str (Str.ofString "/claim/cut.py") 631), (Value.int (117 : Int) 0), (Value.int (1 : Int) 0), (Value.int (0 : Int) 0), (Value.int (0 : Int) 0), (Value.int (3 : Int) 0), (Value.ref 226), (Value.bool Bool.true), (Value.int (276 : Int) 0), (Value.ref 227), Value.none, Value.none, Value.none, (Value.ref 228), (Value.int (632 : Int) 0), (Value.int (117 : Int) 0), (Value.str (Str.ofString "/claim/cut.py") 633)])) (List.toArray []))),
  (230, (Obj.mk (Value.type "function") (Option.none) (Data.func (FuncData.mk (Str.ofString "__str__") (Str.ofString "Headers.__str__") (dPa (dCl 12 13)) (.stmts (dBo (dCl 12 13))) (dSc (dCl 12 13)) 3 [] Value.none Value.none Value.none (Value.str (Str.ofString "cpy313.wsgiref.headers") 452) (Option.none) (Value.ref 229) Value.none 0)) (List.toArray []))),
  (231, (Obj.mk (Value.type "tuple") (Option.none) (Data.seq (List.toArray []) 0) (List.toArray []))),
  (233, (Obj.mk (Value.type "tuple") (Option.none) (Data.seq (List.toArray [(Value.str (Str.ofString "self") 638)]) 0) (List.toArray []))),
  (234, (Obj.mk (Value.type "tuple") (Option.none) (Data.seq (List.toArray []) 0) (List.toArray []))),
  (236, (Obj.mk (Value.type "code") (Option.none) (Data.fields (List.toArray [(Value.str (Str.ofString "__bytes__") 635), (Value.str (Str.ofString "Headers.__bytes__") 636), (Value.str (Str.ofString "/claim/cut.py") 637), (Value.int (120 : Int) 0), (Value.int (1 : Int) 0), (Value.int (0 : Int) 0), (Value.int (0 : Int) 0), (Value.int (3 : Int) 0), (Value.ref 231), (Value.bool Bool.true), (Value.int (276 : Int) 0), (Value.ref 232), Value.none, (Value.ref 233), (Value.ref 234), (Value.ref 235), (Value.int (639 : Int) 0), (Value.int (120 : Int) 0), (Value.str (Str.ofString "/claim/cut.py") 640)])) (List.toArray []))),
  (237, (Obj.mk (Value.type "function") (Option.none) (Data.func (FuncData.mk (Str.ofString "__bytes__") (Str.ofString "Headers.__bytes__") (dPa (dCl 12 14)) (.stmts (dBo (dCl 12 14))) (dSc (dCl 12 14)) 3 [] Value.none Value.none Value.none (Value.str (Str.ofString "cpy313.wsgiref.headers") 452) (Option.none) (Value.ref 236) Value.none 0)) (List.toArray []))),
  (238, (Obj.mk (Value.type "tuple") (Option.none) (Data.seq (List.toArray []) 0) (List.toArray []))),
  (240, (Obj.mk (Value.type "tuple") (Option.none) (Data.seq (List.toArray [(Value.str (Str.ofString "self") 645), (Value.str (Str.ofString "name") 646), (Value.str (Str.ofString "value") 647), (Value.str (Str.ofString "result") 648)]) 0) (List.toArray []))),
  (241, (Obj.mk (Value.type "tuple") (Option.none) (Data.seq (List.toArray []) 0) (List.toArray []))),
  (243, (Obj.mk (Value.type "code") (Option.none) (Data.fields (List.toArray [(Value.str (Str.ofString "setdefault") 642), (Value.str (Str.ofString "Headers.setdefault") 643), (Value.str (Str.ofString "/claim/cut.py") 644), (Value.int (123 : Int) 0), (Value.int (3 : Int) 0), (Value.int (0 : Int) 0), (Value.int (0 : Int) 0), (Value.int (3 : Int) 0), (Value.ref 238), (Value.bool Bool.true), (Value.int (276 : Int) 0), (Value.ref 239), Value.none, (Value.ref 240), (Value.ref 241), (Value.ref 242), (Value.int (649 : Int) 0), (Value.int (123 : Int) 0), (Value.str (Str.ofString "/claim/cut.py") 650)])) (List.toArray []))),
  (244, (Obj.mk (Value.type "function") (Option.none) (Data.func (FuncData.mk (Str.ofString "setdefault") (Str.ofString "Headers.setdefault") (dPa (dCl 12 15)) (.stmts (dBo (dCl 12 15))) (dSc (dCl 12 15)) 3 [] Value.none Value.none Value.none (Value.str (Str.ofString "cpy313.wsgiref.headers") 452) (Option.none) (Value.ref 243) Value.none 0)) (List.toArray []))),
  (245, (Obj.mk (Value.type "tuple") (Option.none) (Data.seq (List.toArray []) 0) (List.toArray []))),
  (247, (Obj.mk (Value.type "tuple") (Option.none) (Data.seq (List.toArray [(Value.str (Str.ofString "self") 655), (Value.str (Str.ofString "_name") 656), (Value.str (Str.ofString "_value") 657), (Value.str (Str.ofString "_params") 658)]) 0) (List.toArray []))),
  (248, (Obj.mk (Value.type "tuple") (Option.none) (Data.seq (List.toArray []) 0) (List.toArray []))),
  (250, (Obj.mk (Value.type "code") (Option.none) (Data.fields (List.toArray [(Value.str (Str.ofString "add_header") 652), (Value.str (Str.ofString "Headers.add_header") 653), (Value.str (Str.ofString "/claim/cut.py") 654), (Value.int (131 : Int) 0), (Value.int (3 : Int) 0), (Value.int (0 : Int) 0), (Value.int (0 : Int) 0), (Value.int (11 : Int) 0), (Value.ref 245), (Value.bool Bool.true), (Value.int (276 : Int) 0), (Value.ref 246), Value.none, (Value.ref 247), (Value.ref 248), (Value.ref 249), (Value.int (659 : Int) 0), (Value.int (131 : Int) 0), (Value.str (Str.ofString "/claim/cut.py") 660)])) (List.toArray []))),
  (251, (Obj.mk (Value.type "function") (Option.none) (Data.func (FuncData.mk (Str.ofString "add_header") (Str.ofString "Headers.add_header") (dPa (dCl 12 16)) (.stmts (dBo (dCl 12 16))) (dSc (dCl 12 16)) 3 [] Value.none Value.none Value.none (Value.str (Str.ofString "cpy313.wsgiref.headers") 452) (Option.none) (Value.ref 250) Value.none 0)) (List.toArray []))),
  (252, (Obj.mk (Value.type "tuple") (Option.none) (Data.seq (List.toArray [(Value.str (Str.ofString "_headers") 662)]) 0) (List.toArray []))),
  (253, (Obj.mk (Value.type "dict") (Option.none) (Data.dict (List.toArray [(DictEntry.mk (PyData.keyHash P (Str.ofString "__module__")) (Value.str (Str.ofString "__module__") 521) (Value.str (Str.ofString "cpy313.wsgiref.headers") 452)), (DictEntry.mk (PyData.keyHash P (Str.ofString "__firstlineno__")) (Value.str (Str.ofString "__firstlineno__") 525) (Value.int (58 : Int) 524)), (DictEntry.mk (PyData.keyHash P (Str.ofString "__init__")) (Value.str (Str.ofString "__init__") 535) (Value.ref 146)), (DictEntry.mk (PyData.keyHash P (Str.ofString "_convert_string_type")) (Value.str (Str.ofString "_convert_string_type") 545) (Value.ref 153)), (DictEntry.mk (PyData.keyHash P (Str.ofString "__len__")) (Value.str (Str.ofString "__len__") 552) (Value.ref 160)), (DictEntry.mk (PyData.keyHash P (Str.ofString "__setitem__")) (Value.str (Str.ofString "__setitem__") 561) (Value.ref 167)), (DictEntry.mk (PyData.keyHash P (Str.ofString "__delitem__")) (Value.str (Str.ofString "__delitem__") 567) (Value.ref 172)), (DictEntry.mk (PyData.keyHash P (Str.ofString "__getitem__")) (Value.str (Str.ofString "__getitem__") 575) (Value.ref 179)), (DictEntry.mk (PyData.keyHash P (Str.ofString "__contains__")) (Value.str (Str.ofString "__contains__") 583) (Value.ref 186)), (DictEntry.mk (PyData.keyHash P (Str.ofString "get_all")) (Value.str (Str.ofString "get_all") 591) (Value.ref 193)), (DictEntry.mk (PyData.keyHash P (Str.ofString "get")) (Value.str (Str.ofString "get") 602) (Value.ref 201)), (DictEntry.mk (PyData.keyHash P (Str.ofString "keys")) (Value.str (Str.ofString "keys") 608) (Value.ref 206)), (DictEntry.mk (PyData.keyHash P (Str.ofString "values")) (Value.str (Str.ofString "values") 614) (Value.ref 211)), (DictEntry.mk (PyData.keyHash P (Str.ofString "items")) (Value.str (Str.ofString "items") 621) (Value.ref 218)), (DictEntry.mk (PyData.keyHash P (Str.ofString "__repr__")) (Value.str (Str.ofString "__repr__") 628) (Value.ref 225)), (DictEntry.mk (PyData.keyHash P (Str.ofString "__str__")) (Value.str (Str.ofString "__str__") 634) (Value.ref 230)), (DictEntry.mk (PyData.keyHash P (Str.ofString "__bytes__")) (Value.str (Str.ofString "__bytes__") 641) (Value.ref 237)), (DictEntry.mk (PyData.keyHash P (Str.ofString "setdefault")) (Value.str (Str.ofString "setdefault") 651) (Value.ref 244)), (DictEntry.mk (PyData.keyHash P (Str.ofString "add_header")) (Value.str (Str.ofString "add_header") 661) (Value.ref 251)), (DictEntry.mk (PyData.keyHash P (Str.ofString "__static_attributes__")) (Value.str (Str.ofString "__static_attributes__") 663) (Value.ref 252)), (DictEntry.mk (PyData.keyHash P (Str.ofString "__dict__")) (Value.str (Str.ofString "__dict__") 665) (Value.ref 255)), (DictEntry.mk (PyData.keyHash P (Str.ofString "__weakref__")) (Value.str (Str.ofString "__weakref__") 667) (Value.ref 256)), (DictEntry.mk (PyData.keyHash P (Str.ofString "__doc__")) (Value.str (Str.ofString "__doc__") 668) Value.none)]) 4) (List.toArray []))),
  (254, (Obj.mk (Value.type "type") (Option.none) (Data.cls (ClassData.mk (Str.ofString "Headers") [(Value.type "object")] [(Value.ref 254), (Value.type "object")] 253 (Str.ofString "Headers") Bool.true [] [] Bool.false (Option.none) Bool.false)) (List.toArray [(Option.none), (Option.none), (Option.some (Value.str (Str.ofString "Headers") 514)), (Option.some (Value.str (Str.ofString "Headers") 522)), (Option.some (Value.builtin "object.__new__")), (Option.some (Value.bool Bool.true))]))),
  (255, (Obj.mk (Value.type "getset_descriptor") (Option.none) (Data.fields (List.toArray [(Value.str (Str.ofString "__dict__") 664), (Value.ref 254), (Value.builtin "function.__dict__"), (Value.builtin "function.__dict__#set")])) (List.toArray []))),
  (256, (Obj.mk (Value.type "getset_descriptor") (Option.none) (Data.fields (List.toArray [(Value.str (Str.ofString "__weakref__") 666), (Value.ref 254), (Value.builtin "ExceptionGroup.__weakref__"), Value.none])) (List.toArray []))),
  (259, (Obj.mk (Value.type "tuple") (Option.none) (Data.seq (List.toArray []) 0) (List.toArray []))),
  (262, (Obj.mk (Value.type "code") (Option.none) (Data.fields (List.toArray [(Value.str (Str.ofString "_law_views") 673), (Value.str (Str.ofString "_law_views") 674), (Value.str (Str.ofString "/claim/cut.py") 675), (Value.int (134 : Int) 0), (Value.int (2 : Int) 0), (Value.int (0 : Int) 0), (Value.int (0 : Int) 0), (Value.int (3 : Int) 0), (Value.ref 259), (Value.bool Bool.true), (Value.int (276 : Int) 0), (Value.ref 260), Value.none, Value.none, Value.none, (Value.ref 261), (Value.int (676 : Int) 0), (Value.int (134 : Int) 0), (Value.str (Str.ofString "/claim/cut.py") 677)])) (List.toArray []))),
  (263, (Obj.mk (Value.type "function") (Option.none) (Data.func (FuncData.mk (Str.ofString "_law_views") (Str.ofString "_law_views") (dPa (dTo 14)) (.stmts (dBo (dTo 14))) (dSc (dTo 14)) 3 [] Value.none Value.none Value.none (Value.str (Str.ofString "law_pg0303_02") 671) (Option.none) (Value.ref 262) Value.none 0)) (List.toArray []))),
  (264, (Obj.mk (Value.type "tuple") (Option.none) (Data.seq (List.toArray []) 0) (List.toArray []))),
  (267, (Obj.mk (Value.type "code") (Option.none) (Data.fields (List.toArray [(Value.str (Str.ofString "_law_numbers") 679), (Value.str (Str.ofString "_law_numbers") 680), (Value.str (Str.ofString "/claim/cut.py") 681), (Value.int (140 : Int) 0), (Value.int (1 : Int) 0), (Value.int (0 : Int) 0), (Value.int (0 : Int) 0), (Value.int (3 : Int) 0), (Value.ref 264), (Value.bool Bool.true), (Value.int (276 : Int) 0), (Value.ref 265), Value.none, Value.none, Value.none, (Value.ref 266), (Value.int (682 : Int) 0), (Value.int (140 : Int) 0), (Value.str (Str.ofString "/claim/cut.py") 683)])) (List.toArray []))),
  (268, (Obj.mk (Value.type "function") (Option.none) (Data.func (FuncData.mk (Str.ofString "_law_numbers") (Str.ofString "_law_numbers") (dPa (dTo 15)) (.stmts (dBo (dTo 15))) (dSc (dTo 15)) 3 [] Value.none Value.none Value.none (Value.str (Str.ofString "law_pg0303_02") 671) (Option.none) (Value.ref 267) Value.none 0)) (List.toArray []))),
  (269, (Obj.mk (Value.type "tuple") (Option.none) (Data.seq (List.toArray []) 0) (List.toArray []))),
  (272, (Obj.mk (Value.type "code") (Option.none) (Data.fields (List.toArray [(Value.str (Str.ofString "_law_refined") 685), (Value.str (Str.ofString "_law_refined") 686), (Value.str (Str.ofString "/claim/cut.py") 687), (Value.int (143 : Int) 0), (Value.int (2 : Int) 0), (Value.int (0 : Int) 0), (Value.int (0 : Int) 0), (Value.int (3 : Int) 0), (Value.ref 269), (Value.bool Bool.true), (Value.int (276 : Int) 0), (Value.ref 270), Value.none, Value.none, Value.none, (Value.ref 271), (Value.int (688 : Int) 0), (Value.int (143 : Int) 0), (Value.str (Str.ofString "/claim/cut.py") 689)])) (List.toArray []))),
  (273, (Obj.mk (Value.type "function") (Option.none) (Data.func (FuncData.mk (Str.ofString "_law_refined") (Str.ofString "_law_refined") (dPa (dTo 16)) (.stmts (dBo (dTo 16))) (dSc (dTo 16)) 3 [] Value.none Value.none Value.none (Value.str (Str.ofString "law_pg0303_02") 671) (Option.none) (Value.ref 272) Value.none 0)) (List.toArray []))),
  (274, (Obj.mk (Value.type "tuple") (Option.none) (Data.seq (List.toArray []) 0) (List.toArray []))),
  (277, (Obj.mk (Value.type "code") (Option.none) (Data.fields (List.toArray [(Value.str (Str.ofString "_law_rows") 691), (Value.str (Str.ofString "_law_rows") 692), (Value.str (Str.ofString "/claim/cut.py") 693), (Value.int (153 : Int) 0), (Value.int (5 : Int) 0), (Value.int (0 : Int) 0), (Value.int (0 : Int) 0), (Value.int (3 : Int) 0), (Value.ref 274), (Value.bool Bool.true), (Value.int (276 : Int) 0), (Value.ref 275), Value.none, Value.none, Value.none, (Value.ref 276), (Value.int (694 : Int) 0), (Value.int (153 : Int) 0), (Value.str (Str.ofString "/claim/cut.py") 695)])) (List.toArray []))),
  (278, (Obj.mk (Value.type "function") (Option.none) (Data.func (FuncData.mk (Str.ofString "_law_rows") (Str.ofString "_law_rows") (dPa (dTo 17)) (.stmts (dBo (dTo 17))) (dSc (dTo 17)) 3 [] Value.none Value.none Value.none (Value.str (Str.ofString "law_pg0303_02") 671) (Option.none) (Value.ref 277) Value.none 0)) (List.toArray []))),
  (279, (Obj.mk (Value.type "tuple") (Option.none) (Data.seq (List.toArray []) 0) (List.toArray []))),
  (281, (Obj.mk (Value.type "tuple") (Option.none) (Data.seq (List.toArray [(Value.str (Str.ofString "letters") 700), (Value.str (Str.ofString "ways") 701), (Value.str (Str.ofString "one") 702), (Value.str (Str.ofString "other") 703), (Value.str (Str.ofString "depth") 704), (Value.str (Str.ofString "a") 705), (Value.str (Str.ofString "b") 706), (Value.str (Str.ofString "c") 707), (Value.str (Str.ofString "d") 708)]) 0) (List.toArray []))),
  (282, (Obj.mk (Value.type "tuple") (Option.none) (Data.seq (List.toArray []) 0) (List.toArray []))),
  (284, (Obj.mk (Value.type "code") (Option.none) (Data.fields (List.toArray [(Value.str (Str.ofString "_law_alike") 697), (Value.str (Str.ofString "_law_alike") 698), (Value.str (Str.ofString "/claim/cut.py") 699), (Value.int (159 : Int) 0), (Value.int (5 : Int) 0), (Value.int (0 : Int) 0), (Value.int (0 : Int) 0), (Value.int (3 : Int) 0), (Value.ref 279), (Value.bool Bool.true), (Value.int (276 : Int) 0), (Value.ref 280), Value.none, (Value.ref 281), (Value.ref 282), (Value.ref 283), (Value.int (709 : Int) 0), (Value.int (159 : Int) 0), (Value.str (Str.ofString "/claim/cut.py") 710)])) (List.toArray []))),
  (285, (Obj.mk (Value.type "function") (Option.none) (Data.func (FuncData.mk (Str.ofString "_law_alike") (Str.ofString "_law_alike") (dPa (dTo 18)) (.stmts (dBo (dTo 18))) (dSc (dTo 18)) 3 [] Value.none Value.none Value.none (Value.str (Str.ofString "law_pg0303_02") 671) (Option.none) (Value.ref 284) Value.none 0)) (List.toArray []))),
  (286, (Obj.mk (Value.type "tuple") (Option.none) (Data.seq (List.toArray []) 0) (List.toArray []))),
  (289, (Obj.mk (Value.type "code") (Option.none) (Data.fields (List.toArray [(Value.str (Str.ofString "law") 712), (Value.str (Str.ofString "law") 713), (Value.str (Str.ofString "/claim/cut.py") 714), (Value.int (169 : Int) 0), (Value.int (1 : Int) 0), (Value.int (0 : Int) 0), (Value.int (0 : Int) 0), (Value.int (3 : Int) 0), (Value.ref 286), (Value.bool Bool.true), (Value.int (276 : Int) 0), (Value.ref 287), Value.none, Value.none, Value.none, (Value.ref 288), (Value.int (715 : Int) 0), (Value.int (169 : Int) 0), (Value.str (Str.ofString "/claim/cut.py") 716)])) (List.toArray []))),
  (290, (Obj.mk (Value.type "function") (Option.none) (Data.func (FuncData.mk (Str.ofString "law") (Str.ofString "law") (dPa (dTo 19)) (.stmts (dBo (dTo 19))) (dSc (dTo 19)) 3 [] Value.none Value.none Value.none (Value.str (Str.ofString "law_pg0303_02") 671) (Option.none) (Value.ref 289) Value.none 0)) (List.toArray [])))]
noncomputable def heapAs : List Addr := [2, 3, 32, 34, 35, 37, 38, 49, 51, 52, 54, 55, 56, 58, 59, 61, 62, 63, 65, 66, 68, 69, 70, 72, 73, 75, 76, 77, 79, 80, 82, 83, 84, 86, 87, 89, 90, 91, 93, 94, 96, 97, 98, 99, 100, 101, 102, 108, 109, 113, 114, 115, 117, 118, 120, 121, 125, 126, 130, 131, 139, 140, 142, 143, 145, 146, 147, 149, 150, 152, 153, 154, 156, 157, 159, 160, 161, 163, 164, 166, 167, 168, 171, 172, 173, 175, 176, 178, 179, 180, 182, 183, 185, 186, 187, 189, 190, 192, 193, 194, 195, 197, 198, 200, 201, 202, 205, 206, 207, 210, 211, 212, 214, 215, 217, 218, 219, 221, 222, 224, 225, 226, 229, 230, 231, 233, 234, 236, 237, 238, 240, 241, 243, 244, 245, 247, 248, 250, 251, 252, 253, 254, 255, 256, 259, 262, 263, 264, 267, 268, 269, 272, 273, 274, 277, 278, 279, 281, 282, 284, 285, 286, 289, 290]
theorem heapAs_eq (P : Params) : heapAs = (heapK P).map (·.1) := by rfl
noncomputable def hook : Hook := kHook heapK heapAs heapAs_eq
end M3
end
-- part GN1b
section
set_option maxRecDepth 100000
namespace M3
open PySem PySem.W PyProof.Rows
noncomputable def keep1 : List Nat := [0,1,3,5,6,7,8,10,11,12,14,15,16,17,18,19]
noncomputable def view1 : Program := view PySem.Challenge.pw_pg0303_02 keep1
noncomputable def loose1 : List Str := [Str.ofString "Whitespace", Str.ofString "_twin_re_1", Str.ofString "_twin_re_2", Str.ofString "_name_disallowed_re", Str.ofString "_value_disallowed_re"]
end M3
namespace M3.TT
open PySem PySem.W PyProof.Rows
/- the states of the top's run, as the program wip/PrintTop.lean printed them -/
abbrev sq (s : String) : Str := Str.ofString s
abbrev vs (s : String) (n : Nat) : Value := .str (Str.ofString s) n
abbrev de (P : Params) (s : String) (n : Nat) (v : Value) : DictEntry := DictEntry.mk (PyData.keyHash P (Str.ofString s)) (.str (Str.ofString s) n) v
abbrev ar {α : Type} (l : List α) : Array α := l.toArray
noncomputable def o0_I1 (P : Params) : Obj := (Obj.mk (.type "dict") (none) (Data.dict (ar [(de P "__name__" 1 (vs "builtins" 160)), (de P "__doc__" 2 (.builtin "builtins.__doc__:str#\x6fpaque")), (de P "__package__" 3 (.builtin "builtins.__package__:str#\x6fpaque")), (de P "__loader__" 4 (.builtin "builtins.__loader__:shared#\x6fpaque")), (de P "__spec__" 5 (.builtin "builtins.__spec__#\x6fpaque")), (de P "__build_class__" 6 (.builtin "__build_class__")), (de P "__import__" 7 (.builtin "__import__")), (de P "abs" 8 (.builtin "abs")), (de P "all" 9 (.builtin "all")), (de P "any" 10 (.builtin "any")), (de P "ascii" 11 (.builtin "ascii")), (de P "bin" 12 (.builtin "bin")), (de P "breakpoint" 13 (.builtin "breakpoint")), (de P "callable" 14 (.builtin "callable")), (de P "chr" 15 (.builtin "chr")), (de P "compile" 16 (.builtin "compile")), (de P "delattr" 17 (.builtin "delattr")), (de P "dir" 18 (.builtin "dir")), (de P "divmod" 19 (.builtin "divmod")), (de P "eval" 20 (.builtin "eval")), (de P "exec" 21 (.builtin "exec")), (de P "format" 22 (.builtin "format")), (de P "getattr" 23 (.builtin "getattr")), (de P "globals" 24 (.builtin "globals")), (de P "hasattr" 25 (.builtin "hasattr")), (de P "hash" 26 (.builtin "hash")), (de P "hex" 27 (.builtin "hex")), (de P "id" 28 (.builtin "id")), (de P "input" 29 (.builtin "input")), (de P "isinstance" 30 (.builtin "isinstance")), (de P "issubclass" 31 (.builtin "issubclass")), (de P "iter" 32 (.builtin "iter")), (de P "aiter" 33 (.builtin "aiter")), (de P "len" 34 (.builtin "len")), (de P "locals" 35 (.builtin "locals")), (de P "max" 36 (.builtin "max")), (de P "min" 37 (.builtin "min")), (de P "next" 38 (.builtin "next")), (de P "anext" 39 (.builtin "anext")), (de P "oct" 40 (.builtin "oct")), (de P "ord" 41 (.builtin "ord")), (de P "pow" 42 (.builtin "pow")), (de P "print" 43 (.builtin "print")), (de P "repr" 44 (.builtin "repr")), (de P "round" 45 (.builtin "round")), (de P "setattr" 46 (.builtin "setattr")), (de P "sorted" 47 (.builtin "sorted")), (de P "sum" 48 (.builtin "sum")), (de P "vars" 49 (.builtin "vars")), (de P "None" 50 .none), (de P "Ellipsis" 51 Value.ellipsis), (de P "NotImplemented" 52 Value.notImplemented), (de P "False" 53 (.bool false)), (de P "True" 54 (.bool true)), (de P "bool" 55 (.type "bool")), (de P "memoryview" 56 (.type "memoryview")), (de P "bytearray" 57 (.type "bytearray")), (de P "bytes" 58 (.type "bytes")), (de P "classmethod" 59 (.type "classmethod")), (de P "complex" 60 (.type "complex")), (de P "dict" 61 (.type "dict")), (de P "enumerate" 62 (.type "enumerate")), (de P "filter" 63 (.type "filter")), (de P "float" 64 (.type "float")), (de P "frozenset" 65 (.type "frozenset")), (de P "property" 66 (.type "property")), (de P "int" 67 (.type "int")), (de P "list" 68 (.type "list")), (de P "map" 69 (.type "map")), (de P "object" 70 (.type "object")), (de P "range" 71 (.type "range")), (de P "reversed" 72 (.type "reversed")), (de P "set" 73 (.type "set")), (de P "slice" 74 (.type "slice")), (de P "staticmethod" 75 (.type "staticmethod")), (de P "str" 76 (.type "str")), (de P "super" 77 (.type "super")), (de P "tuple" 78 (.type "tuple")), (de P "type" 79 (.type "type")), (de P "zip" 80 (.type "zip")), (de P "__debug__" 81 (.bool true)), (de P "BaseException" 82 (.type "BaseException")), (de P "BaseExceptionGroup" 83 (.type "BaseExceptionGroup")), (de P "Exception" 84 (.type "Exception")), (de P "GeneratorExit" 85 (.type "GeneratorExit")), (de P "KeyboardInterrupt" 86 (.type "KeyboardInterrupt")), (de P "SystemExit" 87 (.type "SystemExit")), (de P "ArithmeticError" 88 (.type "ArithmeticError")), (de P "AssertionError" 89 (.type "AssertionError")), (de P "AttributeError" 90 (.type "AttributeError")), (de P "BufferError" 91 (.type "BufferError")), (de P "EOFError" 92 (.type "EOFError")), (de P "ImportError" 93 (.type "ImportError")), (de P "LookupError" 94 (.type "LookupError")), (de P "MemoryError" 95 (.type "MemoryError")), (de P "NameError" 96 (.type "NameError")), (de P "OSError" 97 (.type "OSError")), (de P "ReferenceError" 98 (.type "ReferenceError")), (de P "RuntimeError" 99 (.type "RuntimeError")), (de P "StopAsyncIteration" 100 (.type "StopAsyncIteration")), (de P "StopIteration" 101 (.type "StopIteration")), (de P "SyntaxError" 102 (.type "SyntaxError")), (de P "SystemError" 103 (.type "SystemError")), (de P "TypeError" 104 (.type "TypeError")), (de P "ValueError" 105 (.type "ValueError")), (de P "Warning" 106 (.type "Warning")), (de P "FloatingPointError" 107 (.type "FloatingPointError")), (de P "OverflowError" 108 (.type "OverflowError")), (de P "ZeroDivisionError" 109 (.type "ZeroDivisionError")), (de P "BytesWarning" 110 (.type "BytesWarning")), (de P "DeprecationWarning" 111 (.type "DeprecationWarning")), (de P "EncodingWarning" 112 (.type "EncodingWarning")), (de P "FutureWarning" 113 (.type "FutureWarning")), (de P "ImportWarning" 114 (.type "ImportWarning")), (de P "PendingDeprecationWarning" 115 (.type "PendingDeprecationWarning")), (de P "ResourceWarning" 116 (.type "ResourceWarning")), (de P "RuntimeWarning" 117 (.type "RuntimeWarning")), (de P "SyntaxWarning" 118 (.type "SyntaxWarning")), (de P "UnicodeWarning" 119 (.type "UnicodeWarning")), (de P "UserWarning" 120 (.type "UserWarning")), (de P "BlockingIOError" 121 (.type "BlockingIOError")), (de P "ChildProcessError" 122 (.type "ChildProcessError")), (de P "ConnectionError" 123 (.type "ConnectionError")), (de P "FileExistsError" 124 (.type "FileExistsError")), (de P "FileNotFoundError" 125 (.type "FileNotFoundError")), (de P "InterruptedError" 126 (.type "InterruptedError")), (de P "IsADirectoryError" 127 (.type "IsADirectoryError")), (de P "NotADirectoryError" 128 (.type "NotADirectoryError")), (de P "PermissionError" 129 (.type "PermissionError")), (de P "ProcessLookupError" 130 (.type "ProcessLookupError")), (de P "TimeoutError" 131 (.type "TimeoutError")), (de P "IndentationError" 132 (.type "IndentationError")), (de P "_IncompleteInputError" 133 (.type "_IncompleteInputError")), (de P "IndexError" 134 (.type "IndexError")), (de P "KeyError" 135 (.type "KeyError")), (de P "ModuleNotFoundError" 136 (.type "ModuleNotFoundError")), (de P "NotImplementedError" 137 (.type "NotImplementedError")), (de P "PythonFinalizationError" 138 (.type "PythonFinalizationError")), (de P "RecursionError" 139 (.type "RecursionError")), (de P "UnboundLocalError" 140 (.type "UnboundLocalError")), (de P "UnicodeError" 141 (.type "UnicodeError")), (de P "BrokenPipeError" 142 (.type "BrokenPipeError")), (de P "ConnectionAbortedError" 143 (.type "ConnectionAbortedError")), (de P "ConnectionRefusedError" 144 (.type "ConnectionRefusedError")), (de P "ConnectionResetError" 145 (.type "ConnectionResetError")), (de P "TabError" 146 (.type "TabError")), (de P "UnicodeDecodeError" 147 (.type "UnicodeDecodeError")), (de P "UnicodeEncodeError" 148 (.type "UnicodeEncodeError")), (de P "UnicodeTranslateError" 149 (.type "UnicodeTranslateError")), (de P "ExceptionGroup" 150 (.type "ExceptionGroup")), (de P "EnvironmentError" 151 (.type "OSError")), (de P "IOError" 152 (.type "OSError")), (de P "open" 153 (.builtin "open")), (de P "quit" 154 (.builtin "builtins.quit#\x6fpaque")), (de P "exit" 155 (.builtin "builtins.exit#\x6fpaque")), (de P "copyright" 156 (.builtin "builtins.copyright#\x6fpaque")), (de P "credits" 157 (.builtin "builtins.credits#\x6fpaque")), (de P "license" 158 (.builtin "builtins.license#\x6fpaque")), (de P "help" 159 (.builtin "builtins.help#\x6fpaque"))]) 159) (ar []))
noncomputable def o1_I1 (P : Params) : Obj := (Obj.mk (.type "dict") (none) (Data.dict (ar [(de P "builtins" 162 (.ref 4)), (de P "__main__" 163 (.ref 5))]) 2) (ar []))
noncomputable def o2_I1 (P : Params) : Obj := (Obj.mk .none (none) (Data.dict (ar [(DictEntry.mk (PyData.keyHash P (sq "\x69mport.loaded._sre")) (Value.str (sq "\x69mport.loaded._sre") 183) (.bool true)), (de P "class._frozen_importlib.BuiltinImporter" 185 (.ref 14))]) 2) (ar []))
noncomputable def o3_I1 (P : Params) : Obj := (Obj.mk (.type "dict") (none) (Data.dict (ar [(de P "__name__" 165 (vs "__main__" 164)), (de P "__doc__" 166 .none), (de P "__package__" 167 .none), (de P "__loader__" 168 (.builtin "__main__.__loader__#\x6fpaque")), (de P "__spec__" 169 .none), (de P "__annotations__" 170 (.ref 6)), (de P "__builtins__" 171 (.ref 4)), (de P "__file__" 173 (vs "/claim/cut.py" 172)), (de P "__cached__" 174 .none)]) 9) (ar []))
noncomputable def o4_I1 (P : Params) : Obj := (Obj.mk (.type "module") (some 0) Data.plain (ar []))
noncomputable def o5_I1 (P : Params) : Obj := (Obj.mk (.type "module") (some 3) Data.plain (ar []))
noncomputable def o6_I1 (P : Params) : Obj := (Obj.mk (.type "dict") (none) (Data.dict (ar []) 0) (ar []))
noncomputable def o7_I1 (P : Params) : Obj := (Obj.mk (.type "tuple") (none) (Data.seq (ar []) 0) (ar []))
noncomputable def o8_I1 (P : Params) : Obj := (Obj.mk .none (none) (Data.fields (ar [])) (ar []))
noncomputable def o9_I1 (P : Params) : Obj := (Obj.mk (.type "code") (none) (Data.fields (ar [(vs "<module>" 176), (vs "<module>" 177), (vs "/claim/cut.py" 178), (.int (1 : Int) 0), (.int (0 : Int) 0), (.int (0 : Int) 0), (.int (0 : Int) 0), (.int (0 : Int) 0), (.ref 7), (.bool false), (.int (175 : Int) 0), (.ref 8), .none, .none, .none, .none, (.int (179 : Int) 0), (.int (1 : Int) 0), (vs "/claim/cut.py" 180)])) (ar []))
noncomputable def o10_I1 (P : Params) : Obj := (Obj.mk (.type "frame") (none) Data.plain (ar [(some (.ref 9)), (some (.ref 3)), (some (.ref 3)), (none), (some (vs "__main__" 164)), (none), (some (.ref 0))]))
noncomputable def o11_I1 (P : Params) : Obj := (Obj.mk (.type "dict") (none) (Data.dict (ar []) 0) (ar []))
noncomputable def o12_I1 (P : Params) : Obj := (Obj.mk (.type "module") (some 11) Data.plain (ar []))
noncomputable def o13_I1 (P : Params) : Obj := (Obj.mk (.type "dict") (none) (Data.dict (ar [(de P "__module__" 189 (vs "_frozen_importlib" 186)), (de P "__firstlineno__" 190 (.int (971 : Int) 187)), (de P "__doc__" 191 (.builtin "_frozen_importlib.BuiltinImporter.__doc__:str#\x6fpaque")), (de P "_ORIGIN" 192 (vs "built-in" 188)), (de P "find_spec" 193 (.builtin "_frozen_importlib.BuiltinImporter.find_spec#\x6fpaque")), (de P "create_module" 194 (.builtin "_frozen_importlib.BuiltinImporter.create_module#\x6fpaque")), (de P "exec_module" 195 (.builtin "_frozen_importlib.BuiltinImporter.exec_module#\x6fpaque"))]) 7) (ar []))
noncomputable def o14_I1 (P : Params) : Obj := (Obj.mk (.type "type") (none) (Data.cls (ClassData.mk (sq "BuiltinImporter") [(.type "object")] [(.ref 14), (.type "object")] 13 (sq "BuiltinImporter") true [] [] false (none) false)) (ar []))
noncomputable def o15_I1 (P : Params) : Obj := (Obj.mk (.type "tuple") (none) (Data.seq (ar []) 0) (ar []))
noncomputable def o2_I2 (P : Params) : Obj := (Obj.mk .none (none) (Data.dict (ar [(DictEntry.mk (PyData.keyHash P (sq "\x69mport.loaded._sre")) (Value.str (sq "\x69mport.loaded._sre") 183) (.bool true)), (de P "class._frozen_importlib.BuiltinImporter" 185 (.ref 14)), (DictEntry.mk (PyData.keyHash P (sq "watched.\x69mport")) (Value.str (sq "watched.\x69mport") 206) (.ref 18))]) 3) (ar []))
noncomputable def o13_I2 (P : Params) : Obj := (Obj.mk (.type "dict") (none) (Data.dict (ar [(de P "__module__" 189 (vs "_frozen_importlib" 186)), (de P "__firstlineno__" 190 (.int (971 : Int) 187)), (de P "__doc__" 191 (.builtin "_frozen_importlib.BuiltinImporter.__doc__:str#\x6fpaque")), (de P "_ORIGIN" 192 (vs "built-in" 188)), (de P "find_spec" 193 (.builtin "_frozen_importlib.BuiltinImporter.find_spec#\x6fpaque")), (de P "create_module" 194 (.builtin "_frozen_importlib.BuiltinImporter.create_module#\x6fpaque")), (de P "exec_module" 195 (.builtin "_frozen_importlib.BuiltinImporter.exec_module#\x6fpaque")), (de P "get_code" 196 (.builtin "_frozen_importlib.BuiltinImporter.get_code#\x6fpaque")), (de P "get_source" 197 (.builtin "_frozen_importlib.BuiltinImporter.get_source#\x6fpaque")), (de P "is_package" 198 (.builtin "_frozen_importlib.BuiltinImporter.is_package#\x6fpaque")), (de P "load_module" 199 (.builtin "_frozen_importlib.BuiltinImporter.load_module#\x6fpaque")), (de P "__static_attributes__" 200 (.ref 15)), (de P "__dict__" 202 (.ref 16)), (de P "__weakref__" 204 (.ref 17))]) 14) (ar []))
noncomputable def o16_I2 (P : Params) : Obj := (Obj.mk (.type "getset_descriptor") (none) (Data.fields (ar [(vs "__dict__" 201), (.ref 14), (.builtin "function.__dict__"), (.builtin "function.__dict__#set")])) (ar []))
noncomputable def o17_I2 (P : Params) : Obj := (Obj.mk (.type "getset_descriptor") (none) (Data.fields (ar [(vs "__weakref__" 203), (.ref 14), (.builtin "ExceptionGroup.__weakref__"), .none])) (ar []))
noncomputable def o18_I2 (P : Params) : Obj := (Obj.mk .none (none) (Data.seq (ar [(.int (13 : Int) 0), (Value.str (sq "\x06½\n__module__\x06º\x11_frozen_importlib\x06¾\x0f__firstlineno__\x04»\x00ϋ\x06¿\x07__doc__\t4_frozen_importlib.BuiltinImporter.__doc__:str#\x6fpaque\x06À\x07_ORIGIN\x06¼\x08built-in\x06Á\tfind_spec\t2_frozen_importlib.BuiltinImporter.find_spec#\x6fpaque\x06Â\x0dcreate_module\t6_frozen_importlib.BuiltinImporter.create_module#\x6fpaque\x06Ã\x0bexec_module\t4_frozen_importlib.BuiltinImporter.exec_module#\x6fpaque\x06Ä\x08get_code\t1_frozen_importlib.BuiltinImporter.get_code#\x6fpaque\x06Å\nget_source\t3_frozen_importlib.BuiltinImporter.get_source#\x6fpaque\x06Æ\nis_package\t3_frozen_importlib.BuiltinImporter.is_package#\x6fpaque\x06Ç\x0bload_module\t4_frozen_importlib.BuiltinImporter.load_module#\x6fpaque\x06È\x15__static_attributes__\x04\x00\x00\x0f\x06Ê\x08__dict__\x04\x00\x00\x10\x06Ì\x0b__weakref__\x04\x00\x00\x11") 0), (.bool true), (.bool true), (vs "" 205)]) 0) (ar []))
noncomputable def o19_I2 (P : Params) : Obj := (Obj.mk (.type "list") (none) (Data.seq (ar []) 0) (ar []))
noncomputable def o1_Se (P : Params) : Obj := (Obj.mk (.type "dict") (none) (Data.dict (ar [(de P "builtins" 162 (.ref 4)), (de P "__main__" 163 (.ref 5)), (de P "_sre" 244 (.ref 12))]) 3) (ar []))
noncomputable def o2_Se (P : Params) : Obj := (Obj.mk .none (none) (Data.dict (ar [(DictEntry.mk (PyData.keyHash P (sq "\x69mport.loaded._sre")) (Value.str (sq "\x69mport.loaded._sre") 183) (.bool true)), (de P "class._frozen_importlib.BuiltinImporter" 185 (.ref 14)), (DictEntry.mk (PyData.keyHash P (sq "watched.\x69mport")) (Value.str (sq "watched.\x69mport") 206) (.ref 18)), (de P "class._frozen_importlib.ModuleSpec" 216 (.ref 22)), (de P "sys.modules.booked-epoch" 245 (.int (3 : Int) 0)), (DictEntry.mk (PyData.keyHash P (sq "\x69mport.later-laid._sre")) (Value.str (sq "\x69mport.later-laid._sre") 270) (.bool true)), (de P "watched.library" 272 (.ref 27)), (de P "watched.library-objects" 0 (Value.str (sq "\x0c") 0)), (de P "watched.library-deep._sre" 273 (Value.str (sq "\x04\x00\x00\x0b\x04\x00\x00\x0b\x04\x00\x00\x03\x04\x00\x00\x0b\x08\x04dict\x02") 0))]) 9) (ar []))
noncomputable def o3_Se (P : Params) : Obj := (Obj.mk (.type "dict") (none) (Data.dict (ar [(de P "__name__" 165 (vs "__main__" 164)), (de P "__doc__" 166 .none), (de P "__package__" 167 .none), (de P "__loader__" 168 (.builtin "__main__.__loader__#\x6fpaque")), (de P "__spec__" 169 .none), (de P "__annotations__" 170 (.ref 6)), (de P "__builtins__" 171 (.ref 4)), (de P "__file__" 173 (vs "/claim/cut.py" 172)), (de P "__cached__" 174 .none), (de P "_sre" 275 (.ref 12))]) 10) (ar []))
noncomputable def o11_Se (P : Params) : Obj := (Obj.mk (.type "dict") (none) (Data.dict (ar [(de P "__name__" 247 (vs "_sre" 246)), (de P "__doc__" 248 .none), (de P "__package__" 250 (vs "" 249)), (de P "__loader__" 251 (.ref 14)), (de P "__spec__" 252 (.ref 26)), (de P "compile" 253 (.builtin "_sre.compile")), (de P "template" 254 (.builtin "_sre.template")), (de P "getcodesize" 255 (.builtin "_sre.getcodesize")), (de P "ascii_iscased" 256 (.builtin "_sre.ascii_iscased")), (de P "unicode_iscased" 257 (.builtin "_sre.unicode_iscased")), (de P "ascii_tolower" 258 (.builtin "_sre.ascii_tolower")), (de P "unicode_tolower" 259 (.builtin "_sre.unicode_tolower")), (de P "MAGIC" 261 (.int (20230612 : Int) 260)), (de P "CODESIZE" 263 (.int (4 : Int) 262)), (de P "MAXREPEAT" 265 (.int (4294967295 : Int) 264)), (de P "MAXGROUPS" 267 (.int (1073741823 : Int) 266)), (de P "copyright" 269 (vs " SRE 2.2.2 Copyright (c) 1997-2002 by Secret Labs AB " 268))]) 17) (ar []))
noncomputable def o18_Se (P : Params) : Obj := (Obj.mk .none (none) (Data.seq (ar [(.int (13 : Int) 0), (Value.str (sq "\x06½\n__module__\x06º\x11_frozen_importlib\x06¾\x0f__firstlineno__\x04»\x00ϋ\x06¿\x07__doc__\t4_frozen_importlib.BuiltinImporter.__doc__:str#\x6fpaque\x06À\x07_ORIGIN\x06¼\x08built-in\x06Á\tfind_spec\t2_frozen_importlib.BuiltinImporter.find_spec#\x6fpaque\x06Â\x0dcreate_module\t6_frozen_importlib.BuiltinImporter.create_module#\x6fpaque\x06Ã\x0bexec_module\t4_frozen_importlib.BuiltinImporter.exec_module#\x6fpaque\x06Ä\x08get_code\t1_frozen_importlib.BuiltinImporter.get_code#\x6fpaque\x06Å\nget_source\t3_frozen_importlib.BuiltinImporter.get_source#\x6fpaque\x06Æ\nis_package\t3_frozen_importlib.BuiltinImporter.is_package#\x6fpaque\x06Ç\x0bload_module\t4_frozen_importlib.BuiltinImporter.load_module#\x6fpaque\x06È\x15__static_attributes__\x04\x00\x00\x0f\x06Ê\x08__dict__\x04\x00\x00\x10\x06Ì\x0b__weakref__\x04\x00\x00\x11") 0), (.bool true), (.bool true), (vs "" 205), (.int (21 : Int) 0), (Value.str (sq "\x06ã\n__module__\x06Ù\x11_frozen_importlib\x06ä\x0f__firstlineno__\x04Ú\x00Ȳ\x06å\x07__doc__\t/_frozen_importlib.ModuleSpec.__doc__:str#\x6fpaque\x06æ\x08__init__\t,_frozen_importlib.ModuleSpec.__init__#\x6fpaque\x06ç\x08__repr__\t,_frozen_importlib.ModuleSpec.__repr__#\x6fpaque\x06è\x06__eq__\t*_frozen_importlib.ModuleSpec.__eq__#\x6fpaque\x06é\x06cached\t*_frozen_importlib.ModuleSpec.cached#\x6fpaque\x06ê\x06parent\t*_frozen_importlib.ModuleSpec.parent#\x6fpaque\x06ë\x0chas_location\t0_frozen_importlib.ModuleSpec.has_location#\x6fpaque\x06ì\x15__static_attributes__\x04\x00\x00\x17\x06î\x08__dict__\x04\x00\x00\x18\x06ð\x0b__weakref__\x04\x00\x00\x19\x06ñ\x08__hash__\x00") 0), (.bool true), (.bool true), (vs "" 242)]) 1) (ar []))
noncomputable def o20_Se (P : Params) : Obj := (Obj.mk (.type "dict") (none) (Data.dict (ar [(de P "name" 208 (vs "_sre" 207)), (de P "loader" 209 (.ref 14)), (de P "origin" 210 (vs "built-in" 184)), (de P "loader_state" 211 .none), (de P "submodule_search_locations" 212 .none), (de P "_uninitialized_submodules" 213 (.ref 19)), (de P "_set_fileattr" 214 (.bool false)), (de P "_cached" 215 .none), (de P "_initializing" 243 (.bool false))]) 9) (ar []))
noncomputable def o21_Se (P : Params) : Obj := (Obj.mk (.type "dict") (none) (Data.dict (ar [(de P "__module__" 227 (vs "_frozen_importlib" 217)), (de P "__firstlineno__" 228 (.int (562 : Int) 218)), (de P "__doc__" 229 (.builtin "_frozen_importlib.ModuleSpec.__doc__:str#\x6fpaque")), (de P "__init__" 230 (.builtin "_frozen_importlib.ModuleSpec.__init__#\x6fpaque")), (de P "__repr__" 231 (.builtin "_frozen_importlib.ModuleSpec.__repr__#\x6fpaque")), (de P "__eq__" 232 (.builtin "_frozen_importlib.ModuleSpec.__eq__#\x6fpaque")), (de P "cached" 233 (.builtin "_frozen_importlib.ModuleSpec.cached#\x6fpaque")), (de P "parent" 234 (.builtin "_frozen_importlib.ModuleSpec.parent#\x6fpaque")), (de P "has_location" 235 (.builtin "_frozen_importlib.ModuleSpec.has_location#\x6fpaque")), (de P "__static_attributes__" 236 (.ref 23)), (de P "__dict__" 238 (.ref 24)), (de P "__weakref__" 240 (.ref 25)), (de P "__hash__" 241 .none)]) 13) (ar []))
noncomputable def o22_Se (P : Params) : Obj := (Obj.mk (.type "type") (none) (Data.cls (ClassData.mk (sq "ModuleSpec") [(.type "object")] [(.ref 22), (.type "object")] 21 (sq "ModuleSpec") true [] [] false (none) false)) (ar []))
noncomputable def o23_Se (P : Params) : Obj := (Obj.mk (.type "tuple") (none) (Data.seq (ar [(vs "_cached" 219), (vs "_set_fileattr" 220), (vs "_uninitialized_submodules" 221), (vs "loader" 222), (vs "loader_state" 223), (vs "name" 224), (vs "origin" 225), (vs "submodule_search_locations" 226)]) 0) (ar []))
noncomputable def o24_Se (P : Params) : Obj := (Obj.mk (.type "getset_descriptor") (none) (Data.fields (ar [(vs "__dict__" 237), (.ref 22), (.builtin "function.__dict__"), (.builtin "function.__dict__#set")])) (ar []))
noncomputable def o25_Se (P : Params) : Obj := (Obj.mk (.type "getset_descriptor") (none) (Data.fields (ar [(vs "__weakref__" 239), (.ref 22), (.builtin "ExceptionGroup.__weakref__"), .none])) (ar []))
noncomputable def o26_Se (P : Params) : Obj := (Obj.mk (.ref 22) (some 20) Data.plain (ar []))
noncomputable def o27_Se (P : Params) : Obj := (Obj.mk .none (none) (Data.seq (ar [(.int (11 : Int) 0), (Value.str (Str.mk (ar [6, 247, 8, 95, 95, 110, 97, 109, 101, 95, 95, 6, 246, 4, 95, 115, 114, 101, 6, 248, 7, 95, 95, 100, 111, 99, 95, 95, 0, 6, 250, 11, 95, 95, 112, 97, 99, 107, 97, 103, 101, 95, 95, 6, 249, 0, 6, 251, 10, 95, 95, 108, 111, 97, 100, 101, 114, 95, 95, 4, 0, 0, 14, 6, 252, 8, 95, 95, 115, 112, 101, 99, 95, 95, 4, 0, 0, 26, 6, 253, 7, 99, 111, 109, 112, 105, 108, 101, 9, 12, 95, 115, 114, 101, 46, 99, 111, 109, 112, 105, 108, 101, 6, 254, 8, 116, 101, 109, 112, 108, 97, 116, 101, 9, 13, 95, 115, 114, 101, 46, 116, 101, 109, 112, 108, 97, 116, 101, 6, 255, 11, 103, 101, 116, 99, 111, 100, 101, 115, 105, 122, 101, 9, 16, 95, 115, 114, 101, 46, 103, 101, 116, 99, 111, 100, 101, 115, 105, 122, 101, 6, 256, 13, 97, 115, 99, 105, 105, 95, 105, 115, 99, 97, 115, 101, 100, 9, 18, 95, 115, 114, 101, 46, 97, 115, 99, 105, 105, 95, 105, 115, 99, 97, 115, 101, 100, 6, 257, 15, 117, 110, 105, 99, 111, 100, 101, 95, 105, 115, 99, 97, 115, 101, 100, 9, 20, 95, 115, 114, 101, 46, 117, 110, 105, 99, 111, 100, 101, 95, 105, 115, 99, 97, 115, 101, 100, 6, 258, 13, 97, 115, 99, 105, 105, 95, 116, 111, 108, 111, 119, 101, 114, 9, 18, 95, 115, 114, 101, 46, 97, 115, 99, 105, 105, 95, 116, 111, 108, 111, 119, 101, 114, 6, 259, 15, 117, 110, 105, 99, 111, 100, 101, 95, 116, 111, 108, 111, 119, 101, 114, 9, 20, 95, 115, 114, 101, 46, 117, 110, 105, 99, 111, 100, 101, 95, 116, 111, 108, 111, 119, 101, 114, 6, 261, 5, 77, 65, 71, 73, 67, 4, 260, 0, 20230612, 6, 263, 8, 67, 79, 68, 69, 83, 73, 90, 69, 4, 262, 0, 4, 6, 265, 9, 77, 65, 88, 82, 69, 80, 69, 65, 84, 4, 264, 0, 4294967295, 6, 267, 9, 77, 65, 88, 71, 82, 79, 85, 80, 83, 4, 266, 0, 1073741823, 6, 269, 9, 99, 111, 112, 121, 114, 105, 103, 104, 116, 6, 268, 53, 32, 83, 82, 69, 32, 50, 46, 50, 46, 50, 32, 67, 111, 112, 121, 114, 105, 103, 104, 116, 32, 40, 99, 41, 32, 49, 57, 57, 55, 45, 50, 48, 48, 50, 32, 98, 121, 32, 83, 101, 99, 114, 101, 116, 32, 76, 97, 98, 115, 32, 65, 66, 32])) 0), (.bool true), (.bool false), (vs "_sre" 271)]) 0) (ar []))
noncomputable def o11_S0 (P : Params) : Obj := (Obj.mk (.type "dict") (none) (Data.dict (ar [(de P "__name__" 247 (vs "_sre" 246)), (de P "__doc__" 248 .none), (de P "__package__" 250 (vs "" 249)), (de P "__loader__" 251 (.builtin "off-the-table:_sre.__loader__:shared#\x6fpaque")), (de P "__spec__" 252 (.builtin "off-the-table:_sre.__spec__:shared#\x6fpaque")), (de P "compile" 253 (.builtin "_sre.compile")), (de P "template" 254 (.builtin "off-the-table:_sre.template:shared#\x6fpaque")), (de P "getcodesize" 255 (.builtin "off-the-table:_sre.getcodesize:shared#\x6fpaque")), (de P "ascii_iscased" 256 (.builtin "off-the-table:_sre.ascii_iscased:shared#\x6fpaque")), (de P "unicode_iscased" 257 (.builtin "off-the-table:_sre.unicode_iscased:shared#\x6fpaque")), (de P "ascii_tolower" 258 (.builtin "off-the-table:_sre.ascii_tolower:shared#\x6fpaque")), (de P "unicode_tolower" 259 (.builtin "off-the-table:_sre.unicode_tolower:shared#\x6fpaque")), (de P "MAGIC" 261 (.int (20230612 : Int) 260)), (de P "CODESIZE" 263 (.int (4 : Int) 262)), (de P "MAXREPEAT" 265 (.int (4294967295 : Int) 264)), (de P "MAXGROUPS" 267 (.int (1073741823 : Int) 266)), (de P "copyright" 269 (vs " SRE 2.2.2 Copyright (c) 1997-2002 by Secret Labs AB " 268))]) 17) (ar []))
noncomputable def o28_Sa (P : Params) : Obj := (Obj.mk (.type "tuple") (none) (Data.seq (ar []) 0) (ar []))
noncomputable def o29_Sa (P : Params) : Obj := (Obj.mk .none (none) (Data.fields (ar [])) (ar []))
noncomputable def o30_Sa (P : Params) : Obj := (Obj.mk (.type "code") (none) (Data.fields (ar [(vs "<module>" 277), (vs "<module>" 278), (vs "/claim/cut.py" 279), (.int (1 : Int) 0), (.int (0 : Int) 0), (.int (0 : Int) 0), (.int (0 : Int) 0), (.int (0 : Int) 0), (.ref 28), (.bool false), (.int (276 : Int) 0), (.ref 29), .none, .none, .none, .none, (.int (280 : Int) 0), (.int (1 : Int) 0), (vs "/claim/cut.py" 281)])) (ar []))
noncomputable def o31_Sa (P : Params) : Obj := (Obj.mk (.type "frame") (none) Data.plain (ar [(some (.ref 30)), (some (.ref 3)), (some (.ref 3)), (none), (some (vs "__main__" 164)), (none), (some (.ref 0))]))
noncomputable def o3_G1 (P : Params) : Obj := (Obj.mk (.type "dict") (none) (Data.dict (ar [(de P "__name__" 165 (vs "cpy313.tabnanny" 289)), (de P "__doc__" 166 .none), (de P "__package__" 167 .none), (de P "__loader__" 168 (.builtin "__main__.__loader__#\x6fpaque")), (de P "__spec__" 169 .none), (de P "__annotations__" 170 (.ref 6)), (de P "__builtins__" 171 (.ref 4)), (de P "__file__" 173 (vs "/claim/cut.py" 172)), (de P "__cached__" 174 .none), (de P "_sre" 275 (.ref 12)), (de P "_wall" 288 (.ref 38))]) 11) (ar []))
noncomputable def o29_G1 (P : Params) : Obj := (Obj.mk .none (none) (Data.fields (ar [(.int (2 : Int) 0), (.int (0 : Int) 0), (.ref 37)])) (ar []))
noncomputable def o32_G1 (P : Params) : Obj := (Obj.mk (.type "tuple") (none) (Data.seq (ar []) 0) (ar []))
noncomputable def o33_G1 (P : Params) : Obj := (Obj.mk .none (none) (Data.fields (ar [])) (ar []))
noncomputable def o34_G1 (P : Params) : Obj := (Obj.mk (.type "tuple") (none) (Data.seq (ar [(vs "k" 285)]) 0) (ar []))
noncomputable def o35_G1 (P : Params) : Obj := (Obj.mk (.type "tuple") (none) (Data.seq (ar []) 0) (ar []))
noncomputable def o36_G1 (P : Params) : Obj := (Obj.mk .none (none) (Data.func (FuncData.mk (sq "_wall") (sq "_wall") (dPa (dTo 1)) (.stmts (dBo (dTo 1))) (dSc (dTo 1)) 0 [] .none .none .none .none (none) .none .none 0)) (ar []))
noncomputable def o37_G1 (P : Params) : Obj := (Obj.mk (.type "code") (none) (Data.fields (ar [(vs "_wall" 282), (vs "_wall" 283), (vs "/claim/cut.py" 284), (.int (2 : Int) 0), (.int (1 : Int) 0), (.int (0 : Int) 0), (.int (0 : Int) 0), (.int (3 : Int) 0), (.ref 32), (.bool true), (.int (276 : Int) 0), (.ref 33), .none, (.ref 34), (.ref 35), (.ref 36), (.int (286 : Int) 0), (.int (2 : Int) 0), (vs "/claim/cut.py" 287)])) (ar []))
noncomputable def o38_G1 (P : Params) : Obj := (Obj.mk (.type "function") (none) (Data.func (FuncData.mk (sq "_wall") (sq "_wall") (dPa (dTo 1)) (.stmts (dBo (dTo 1))) (dSc (dTo 1)) 3 [] .none .none .none (vs "__main__" 164) (none) (.ref 37) .none 0)) (ar []))
noncomputable def o3_G2 (P : Params) : Obj := (Obj.mk (.type "dict") (none) (Data.dict (ar [(de P "__name__" 165 (vs "cpy313.tabnanny" 289)), (de P "__doc__" 166 .none), (de P "__package__" 167 .none), (de P "__loader__" 168 (.builtin "__main__.__loader__#\x6fpaque")), (de P "__spec__" 169 .none), (de P "__annotations__" 170 (.ref 6)), (de P "__builtins__" 171 (.ref 4)), (de P "__file__" 173 (vs "/claim/cut.py" 172)), (de P "__cached__" 174 .none), (de P "_sre" 275 (.ref 12)), (de P "_wall" 288 (.ref 38)), (de P "Whitespace" 382 (.ref 100))]) 12) (ar []))
noncomputable def o29_G2 (P : Params) : Obj := (Obj.mk .none (none) (Data.fields (ar [(.int (2 : Int) 0), (.int (0 : Int) 0), (.ref 37), (.int (6 : Int) 0), (.int (0 : Int) 0), (.ref 44)])) (ar []))
noncomputable def o39_G2 (P : Params) : Obj := (Obj.mk (.type "tuple") (none) (Data.seq (ar []) 0) (ar []))
noncomputable def o40_G2 (P : Params) : Obj := (Obj.mk (.type "builtin_function_or_method") (none) (Data.fields (ar [(.builtin "type.__prepare__"), (.type "type")])) (ar []))
noncomputable def o41_G2 (P : Params) : Obj := (Obj.mk (.type "dict") (none) (Data.dict (ar [(de P "__module__" 298 (vs "cpy313.tabnanny" 289)), (de P "__qualname__" 300 (vs "Whitespace" 299)), (de P "__firstlineno__" 302 (.int (6 : Int) 301)), (de P "S" 306 (vs " " 304)), (de P "T" 307 (Value.str (sq "\t") 305)), (de P "__init__" 322 (.ref 55)), (de P "longest_run_of_spaces" 329 (.ref 62)), (de P "indent_level" 337 (.ref 69)), (de P "equal" 345 (.ref 76)), (de P "not_equal_witness" 353 (.ref 83)), (de P "less" 361 (.ref 90)), (de P "not_less_witness" 369 (.ref 97)), (de P "__static_attributes__" 375 (.ref 98))]) 13) (ar []))
noncomputable def o42_G2 (P : Params) : Obj := (Obj.mk (.type "tuple") (none) (Data.seq (ar []) 0) (ar []))
noncomputable def o43_G2 (P : Params) : Obj := (Obj.mk .none (none) (Data.fields (ar [(.int (9 : Int) 0), (.int (4 : Int) 0), (.ref 54), (.int (32 : Int) 0), (.int (4 : Int) 0), (.ref 61), (.int (35 : Int) 0), (.int (4 : Int) 0), (.ref 68), (.int (38 : Int) 0), (.int (4 : Int) 0), (.ref 75), (.int (41 : Int) 0), (.int (4 : Int) 0), (.ref 82), (.int (44 : Int) 0), (.int (4 : Int) 0), (.ref 89), (.int (47 : Int) 0), (.int (4 : Int) 0), (.ref 96)])) (ar []))
noncomputable def o44_G2 (P : Params) : Obj := (Obj.mk (.type "code") (none) (Data.fields (ar [(vs "Whitespace" 293), (vs "Whitespace" 294), (vs "/claim/cut.py" 295), (.int (6 : Int) 0), (.int (0 : Int) 0), (.int (0 : Int) 0), (.int (0 : Int) 0), (.int (0 : Int) 0), (.ref 42), (.bool false), (.int (276 : Int) 0), (.ref 43), .none, .none, .none, .none, (.int (296 : Int) 0), (.int (6 : Int) 0), (vs "/claim/cut.py" 297)])) (ar []))
noncomputable def o45_G2 (P : Params) : Obj := (Obj.mk (.type "frame") (none) Data.plain (ar [(some (.ref 44)), (some (.ref 3)), (some (.ref 41)), (none), (some (vs "cpy313.tabnanny" 289)), (none), (some (.ref 0))]))
noncomputable def o46_G2 (P : Params) : Obj := (Obj.mk (.type "str_ascii_iterator") (none) (Data.fields (ar [.none, (.int (2 : Int) 0)])) (ar []))
noncomputable def o47_G2 (P : Params) : Obj := (Obj.mk (.type "tuple") (none) (Data.seq (ar []) 0) (ar []))
noncomputable def o48_G2 (P : Params) : Obj := (Obj.mk (.type "StopIteration") (none) (Data.fields (ar [(.ref 47), .none, .none, .none, (.bool false), .none])) (ar []))
noncomputable def o49_G2 (P : Params) : Obj := (Obj.mk (.type "tuple") (none) (Data.seq (ar []) 0) (ar []))
noncomputable def o50_G2 (P : Params) : Obj := (Obj.mk .none (none) (Data.fields (ar [])) (ar []))
noncomputable def o51_G2 (P : Params) : Obj := (Obj.mk (.type "tuple") (none) (Data.seq (ar [(vs "self" 311), (vs "ws" 312), (vs "S" 313), (vs "T" 314), (vs "count" 315), (vs "b" 316), (vs "n" 317), (vs "nt" 318), (vs "ch" 319)]) 0) (ar []))
noncomputable def o52_G2 (P : Params) : Obj := (Obj.mk (.type "tuple") (none) (Data.seq (ar []) 0) (ar []))
noncomputable def o53_G2 (P : Params) : Obj := (Obj.mk .none (none) (Data.func (FuncData.mk (sq "__init__") (sq "Whitespace.__init__") (dPa (dCl 3 1)) (.stmts (dBo (dCl 3 1))) (dSc (dCl 3 1)) 0 [] .none .none .none .none (none) .none .none 0)) (ar []))
noncomputable def o54_G2 (P : Params) : Obj := (Obj.mk (.type "code") (none) (Data.fields (ar [(vs "__init__" 308), (vs "Whitespace.__init__" 309), (vs "/claim/cut.py" 310), (.int (9 : Int) 0), (.int (2 : Int) 0), (.int (0 : Int) 0), (.int (0 : Int) 0), (.int (3 : Int) 0), (.ref 49), (.bool true), (.int (276 : Int) 0), (.ref 50), .none, (.ref 51), (.ref 52), (.ref 53), (.int (320 : Int) 0), (.int (9 : Int) 0), (vs "/claim/cut.py" 321)])) (ar []))
noncomputable def o55_G2 (P : Params) : Obj := (Obj.mk (.type "function") (none) (Data.func (FuncData.mk (sq "__init__") (sq "Whitespace.__init__") (dPa (dCl 3 1)) (.stmts (dBo (dCl 3 1))) (dSc (dCl 3 1)) 3 [] .none .none .none (vs "cpy313.tabnanny" 289) (none) (.ref 54) .none 0)) (ar []))
noncomputable def o56_G2 (P : Params) : Obj := (Obj.mk (.type "tuple") (none) (Data.seq (ar []) 0) (ar []))
noncomputable def o57_G2 (P : Params) : Obj := (Obj.mk .none (none) (Data.fields (ar [])) (ar []))
noncomputable def o58_G2 (P : Params) : Obj := (Obj.mk (.type "tuple") (none) (Data.seq (ar [(vs "self" 326)]) 0) (ar []))
noncomputable def o59_G2 (P : Params) : Obj := (Obj.mk (.type "tuple") (none) (Data.seq (ar []) 0) (ar []))
noncomputable def o60_G2 (P : Params) : Obj := (Obj.mk .none (none) (Data.func (FuncData.mk (sq "longest_run_of_spaces") (sq "Whitespace.longest_run_of_spaces") (dPa (dCl 3 2)) (.stmts (dBo (dCl 3 2))) (dSc (dCl 3 2)) 0 [] .none .none .none .none (none) .none .none 0)) (ar []))
noncomputable def o61_G2 (P : Params) : Obj := (Obj.mk (.type "code") (none) (Data.fields (ar [(vs "longest_run_of_spaces" 323), (vs "Whitespace.longest_run_of_spaces" 324), (vs "/claim/cut.py" 325), (.int (32 : Int) 0), (.int (1 : Int) 0), (.int (0 : Int) 0), (.int (0 : Int) 0), (.int (3 : Int) 0), (.ref 56), (.bool true), (.int (276 : Int) 0), (.ref 57), .none, (.ref 58), (.ref 59), (.ref 60), (.int (327 : Int) 0), (.int (32 : Int) 0), (vs "/claim/cut.py" 328)])) (ar []))
noncomputable def o62_G2 (P : Params) : Obj := (Obj.mk (.type "function") (none) (Data.func (FuncData.mk (sq "longest_run_of_spaces") (sq "Whitespace.longest_run_of_spaces") (dPa (dCl 3 2)) (.stmts (dBo (dCl 3 2))) (dSc (dCl 3 2)) 3 [] .none .none .none (vs "cpy313.tabnanny" 289) (none) (.ref 61) .none 0)) (ar []))
noncomputable def o63_G2 (P : Params) : Obj := (Obj.mk (.type "tuple") (none) (Data.seq (ar []) 0) (ar []))
noncomputable def o64_G2 (P : Params) : Obj := (Obj.mk .none (none) (Data.fields (ar [])) (ar []))
noncomputable def o65_G2 (P : Params) : Obj := (Obj.mk (.type "tuple") (none) (Data.seq (ar [(vs "self" 333), (vs "tabsize" 334)]) 0) (ar []))
noncomputable def o66_G2 (P : Params) : Obj := (Obj.mk (.type "tuple") (none) (Data.seq (ar []) 0) (ar []))
noncomputable def o67_G2 (P : Params) : Obj := (Obj.mk .none (none) (Data.func (FuncData.mk (sq "indent_level") (sq "Whitespace.indent_level") (dPa (dCl 3 3)) (.stmts (dBo (dCl 3 3))) (dSc (dCl 3 3)) 0 [] .none .none .none .none (none) .none .none 0)) (ar []))
noncomputable def o68_G2 (P : Params) : Obj := (Obj.mk (.type "code") (none) (Data.fields (ar [(vs "indent_level" 330), (vs "Whitespace.indent_level" 331), (vs "/claim/cut.py" 332), (.int (35 : Int) 0), (.int (2 : Int) 0), (.int (0 : Int) 0), (.int (0 : Int) 0), (.int (3 : Int) 0), (.ref 63), (.bool true), (.int (276 : Int) 0), (.ref 64), .none, (.ref 65), (.ref 66), (.ref 67), (.int (335 : Int) 0), (.int (35 : Int) 0), (vs "/claim/cut.py" 336)])) (ar []))
noncomputable def o69_G2 (P : Params) : Obj := (Obj.mk (.type "function") (none) (Data.func (FuncData.mk (sq "indent_level") (sq "Whitespace.indent_level") (dPa (dCl 3 3)) (.stmts (dBo (dCl 3 3))) (dSc (dCl 3 3)) 3 [] .none .none .none (vs "cpy313.tabnanny" 289) (none) (.ref 68) .none 0)) (ar []))
noncomputable def o70_G2 (P : Params) : Obj := (Obj.mk (.type "tuple") (none) (Data.seq (ar []) 0) (ar []))
noncomputable def o71_G2 (P : Params) : Obj := (Obj.mk .none (none) (Data.fields (ar [])) (ar []))
noncomputable def o72_G2 (P : Params) : Obj := (Obj.mk (.type "tuple") (none) (Data.seq (ar [(vs "self" 341), (vs "other" 342)]) 0) (ar []))
noncomputable def o73_G2 (P : Params) : Obj := (Obj.mk (.type "tuple") (none) (Data.seq (ar []) 0) (ar []))
noncomputable def o74_G2 (P : Params) : Obj := (Obj.mk .none (none) (Data.func (FuncData.mk (sq "equal") (sq "Whitespace.equal") (dPa (dCl 3 4)) (.stmts (dBo (dCl 3 4))) (dSc (dCl 3 4)) 0 [] .none .none .none .none (none) .none .none 0)) (ar []))
noncomputable def o75_G2 (P : Params) : Obj := (Obj.mk (.type "code") (none) (Data.fields (ar [(vs "equal" 338), (vs "Whitespace.equal" 339), (vs "/claim/cut.py" 340), (.int (38 : Int) 0), (.int (2 : Int) 0), (.int (0 : Int) 0), (.int (0 : Int) 0), (.int (3 : Int) 0), (.ref 70), (.bool true), (.int (276 : Int) 0), (.ref 71), .none, (.ref 72), (.ref 73), (.ref 74), (.int (343 : Int) 0), (.int (38 : Int) 0), (vs "/claim/cut.py" 344)])) (ar []))
noncomputable def o76_G2 (P : Params) : Obj := (Obj.mk (.type "function") (none) (Data.func (FuncData.mk (sq "equal") (sq "Whitespace.equal") (dPa (dCl 3 4)) (.stmts (dBo (dCl 3 4))) (dSc (dCl 3 4)) 3 [] .none .none .none (vs "cpy313.tabnanny" 289) (none) (.ref 75) .none 0)) (ar []))
noncomputable def o77_G2 (P : Params) : Obj := (Obj.mk (.type "tuple") (none) (Data.seq (ar []) 0) (ar []))
noncomputable def o78_G2 (P : Params) : Obj := (Obj.mk .none (none) (Data.fields (ar [])) (ar []))
noncomputable def o79_G2 (P : Params) : Obj := (Obj.mk (.type "tuple") (none) (Data.seq (ar [(vs "self" 349), (vs "other" 350)]) 0) (ar []))
noncomputable def o80_G2 (P : Params) : Obj := (Obj.mk (.type "tuple") (none) (Data.seq (ar []) 0) (ar []))
noncomputable def o81_G2 (P : Params) : Obj := (Obj.mk .none (none) (Data.func (FuncData.mk (sq "not_equal_witness") (sq "Whitespace.not_equal_witness") (dPa (dCl 3 5)) (.stmts (dBo (dCl 3 5))) (dSc (dCl 3 5)) 0 [] .none .none .none .none (none) .none .none 0)) (ar []))
noncomputable def o82_G2 (P : Params) : Obj := (Obj.mk (.type "code") (none) (Data.fields (ar [(vs "not_equal_witness" 346), (vs "Whitespace.not_equal_witness" 347), (vs "/claim/cut.py" 348), (.int (41 : Int) 0), (.int (2 : Int) 0), (.int (0 : Int) 0), (.int (0 : Int) 0), (.int (3 : Int) 0), (.ref 77), (.bool true), (.int (276 : Int) 0), (.ref 78), .none, (.ref 79), (.ref 80), (.ref 81), (.int (351 : Int) 0), (.int (41 : Int) 0), (vs "/claim/cut.py" 352)])) (ar []))
noncomputable def o83_G2 (P : Params) : Obj := (Obj.mk (.type "function") (none) (Data.func (FuncData.mk (sq "not_equal_witness") (sq "Whitespace.not_equal_witness") (dPa (dCl 3 5)) (.stmts (dBo (dCl 3 5))) (dSc (dCl 3 5)) 3 [] .none .none .none (vs "cpy313.tabnanny" 289) (none) (.ref 82) .none 0)) (ar []))
noncomputable def o84_G2 (P : Params) : Obj := (Obj.mk (.type "tuple") (none) (Data.seq (ar []) 0) (ar []))
noncomputable def o85_G2 (P : Params) : Obj := (Obj.mk .none (none) (Data.fields (ar [])) (ar []))
noncomputable def o86_G2 (P : Params) : Obj := (Obj.mk (.type "tuple") (none) (Data.seq (ar [(vs "self" 357), (vs "other" 358)]) 0) (ar []))
noncomputable def o87_G2 (P : Params) : Obj := (Obj.mk (.type "tuple") (none) (Data.seq (ar []) 0) (ar []))
noncomputable def o88_G2 (P : Params) : Obj := (Obj.mk .none (none) (Data.func (FuncData.mk (sq "less") (sq "Whitespace.less") (dPa (dCl 3 6)) (.stmts (dBo (dCl 3 6))) (dSc (dCl 3 6)) 0 [] .none .none .none .none (none) .none .none 0)) (ar []))
noncomputable def o89_G2 (P : Params) : Obj := (Obj.mk (.type "code") (none) (Data.fields (ar [(vs "less" 354), (vs "Whitespace.less" 355), (vs "/claim/cut.py" 356), (.int (44 : Int) 0), (.int (2 : Int) 0), (.int (0 : Int) 0), (.int (0 : Int) 0), (.int (3 : Int) 0), (.ref 84), (.bool true), (.int (276 : Int) 0), (.ref 85), .none, (.ref 86), (.ref 87), (.ref 88), (.int (359 : Int) 0), (.int (44 : Int) 0), (vs "/claim/cut.py" 360)])) (ar []))
noncomputable def o90_G2 (P : Params) : Obj := (Obj.mk (.type "function") (none) (Data.func (FuncData.mk (sq "less") (sq "Whitespace.less") (dPa (dCl 3 6)) (.stmts (dBo (dCl 3 6))) (dSc (dCl 3 6)) 3 [] .none .none .none (vs "cpy313.tabnanny" 289) (none) (.ref 89) .none 0)) (ar []))
noncomputable def o91_G2 (P : Params) : Obj := (Obj.mk (.type "tuple") (none) (Data.seq (ar []) 0) (ar []))
noncomputable def o92_G2 (P : Params) : Obj := (Obj.mk .none (none) (Data.fields (ar [])) (ar []))
noncomputable def o93_G2 (P : Params) : Obj := (Obj.mk (.type "tuple") (none) (Data.seq (ar [(vs "self" 365), (vs "other" 366)]) 0) (ar []))
noncomputable def o94_G2 (P : Params) : Obj := (Obj.mk (.type "tuple") (none) (Data.seq (ar []) 0) (ar []))
noncomputable def o95_G2 (P : Params) : Obj := (Obj.mk .none (none) (Data.func (FuncData.mk (sq "not_less_witness") (sq "Whitespace.not_less_witness") (dPa (dCl 3 7)) (.stmts (dBo (dCl 3 7))) (dSc (dCl 3 7)) 0 [] .none .none .none .none (none) .none .none 0)) (ar []))
noncomputable def o96_G2 (P : Params) : Obj := (Obj.mk (.type "code") (none) (Data.fields (ar [(vs "not_less_witness" 362), (vs "Whitespace.not_less_witness" 363), (vs "/claim/cut.py" 364), (.int (47 : Int) 0), (.int (2 : Int) 0), (.int (0 : Int) 0), (.int (0 : Int) 0), (.int (3 : Int) 0), (.ref 91), (.bool true), (.int (276 : Int) 0), (.ref 92), .none, (.ref 93), (.ref 94), (.ref 95), (.int (367 : Int) 0), (.int (47 : Int) 0), (vs "/claim/cut.py" 368)])) (ar []))
noncomputable def o97_G2 (P : Params) : Obj := (Obj.mk (.type "function") (none) (Data.func (FuncData.mk (sq "not_less_witness") (sq "Whitespace.not_less_witness") (dPa (dCl 3 7)) (.stmts (dBo (dCl 3 7))) (dSc (dCl 3 7)) 3 [] .none .none .none (vs "cpy313.tabnanny" 289) (none) (.ref 96) .none 0)) (ar []))
noncomputable def o98_G2 (P : Params) : Obj := (Obj.mk (.type "tuple") (none) (Data.seq (ar [(vs "is_simple" 370), (vs "n" 371), (vs "norm" 372), (vs "nt" 373), (vs "raw" 374)]) 0) (ar []))
noncomputable def o99_G2 (P : Params) : Obj := (Obj.mk (.type "dict") (none) (Data.dict (ar [(de P "__module__" 298 (vs "cpy313.tabnanny" 289)), (de P "__firstlineno__" 302 (.int (6 : Int) 301)), (de P "S" 306 (vs " " 304)), (de P "T" 307 (Value.str (sq "\t") 305)), (de P "__init__" 322 (.ref 55)), (de P "longest_run_of_spaces" 329 (.ref 62)), (de P "indent_level" 337 (.ref 69)), (de P "equal" 345 (.ref 76)), (de P "not_equal_witness" 353 (.ref 83)), (de P "less" 361 (.ref 90)), (de P "not_less_witness" 369 (.ref 97)), (de P "__static_attributes__" 375 (.ref 98)), (de P "__dict__" 377 (.ref 101)), (de P "__weakref__" 379 (.ref 102)), (de P "__doc__" 380 .none)]) 4) (ar []))
noncomputable def o100_G2 (P : Params) : Obj := (Obj.mk (.type "type") (none) (Data.cls (ClassData.mk (sq "Whitespace") [(.type "object")] [(.ref 100), (.type "object")] 99 (sq "Whitespace") true [] [] false (none) false)) (ar [(none), (none), (some (vs "Whitespace" 291)), (some (vs "Whitespace" 299)), (some (.builtin "object.__new__")), (some (.bool true))]))
noncomputable def o101_G2 (P : Params) : Obj := (Obj.mk (.type "getset_descriptor") (none) (Data.fields (ar [(vs "__dict__" 376), (.ref 100), (.builtin "function.__dict__"), (.builtin "function.__dict__#set")])) (ar []))
noncomputable def o102_G2 (P : Params) : Obj := (Obj.mk (.type "getset_descriptor") (none) (Data.fields (ar [(vs "__weakref__" 378), (.ref 100), (.builtin "ExceptionGroup.__weakref__"), .none])) (ar []))
noncomputable def o103_G2 (P : Params) : Obj := (Obj.mk (.type "super") (none) (Data.fields (ar [(.ref 100), (.ref 100), (.ref 100)])) (ar []))
noncomputable def o104_G2 (P : Params) : Obj := (Obj.mk (.type "builtin_function_or_method") (none) (Data.fields (ar [(.builtin "object.__init_subclass__"), (.ref 100)])) (ar []))
noncomputable def o3_G3 (P : Params) : Obj := (Obj.mk (.type "dict") (none) (Data.dict (ar [(de P "__name__" 165 (vs "cpy313.wsgiref.headers" 452)), (de P "__doc__" 166 .none), (de P "__package__" 167 .none), (de P "__loader__" 168 (.builtin "__main__.__loader__#\x6fpaque")), (de P "__spec__" 169 .none), (de P "__annotations__" 170 (.ref 6)), (de P "__builtins__" 171 (.ref 4)), (de P "__file__" 173 (vs "/claim/cut.py" 172)), (de P "__cached__" 174 .none), (de P "_sre" 275 (.ref 12)), (de P "_wall" 288 (.ref 38)), (de P "Whitespace" 382 (.ref 100)), (de P "_twin_re_1" 400 (.ref 109)), (de P "_twin_re_2" 442 (.ref 114)), (de P "CRLF" 444 (Value.str (sq "\x0d\n") 443)), (de P "quotedata" 451 (.ref 121)), (de P "_name_disallowed_re" 479 (.ref 126)), (de P "_value_disallowed_re" 513 (.ref 131))]) 18) (ar []))
noncomputable def o29_G3 (P : Params) : Obj := (Obj.mk .none (none) (Data.fields (ar [(.int (2 : Int) 0), (.int (0 : Int) 0), (.ref 37), (.int (6 : Int) 0), (.int (0 : Int) 0), (.ref 44), (.int (53 : Int) 0), (.int (0 : Int) 0), (.ref 120)])) (ar []))
noncomputable def o105_G3 (P : Params) : Obj := (Obj.mk (.type "list") (none) (Data.seq (ar [(.int (14 : Int) 388), (.int (4 : Int) 389), (.int (0 : Int) 390), (.int (1 : Int) 391), (.int (1 : Int) 392), (.int (6 : Int) 393), (.int (1 : Int) 394), (.int (16 : Int) 395), (.int (46 : Int) 396), (.int (1 : Int) 397)]) 0) (ar []))
noncomputable def o106_G3 (P : Params) : Obj := (Obj.mk (.type "dict") (none) (Data.dict (ar []) 0) (ar []))
noncomputable def o107_G3 (P : Params) : Obj := (Obj.mk (.type "tuple") (none) (Data.seq (ar [.none]) 0) (ar []))
noncomputable def o108_G3 (P : Params) : Obj := (Obj.mk (.type "tuple") (none) (Data.seq (ar [(.int (14 : Int) 0), (.int (4 : Int) 0), (.int (0 : Int) 0), (.int (1 : Int) 0), (.int (1 : Int) 0), (.int (6 : Int) 0), (.int (1 : Int) 0), (.int (16 : Int) 0), (.int (46 : Int) 0), (.int (1 : Int) 0)]) 0) (ar []))
noncomputable def o109_G3 (P : Params) : Obj := (Obj.mk (.type "re.Pattern") (none) (Data.fields (ar [(vs "(?m)^\\." 386), (.int (40 : Int) 399), (.int (0 : Int) 0), .none, .none, (.ref 108), (.int (0 : Int) 0)])) (ar []))
noncomputable def o110_G3 (P : Params) : Obj := (Obj.mk (.type "list") (none) (Data.seq (ar [(.int (14 : Int) 404), (.int (9 : Int) 405), (.int (4 : Int) 406), (.int (1 : Int) 407), (.int (2 : Int) 408), (.int (16 : Int) 409), (.int (10 : Int) 410), (.int (16 : Int) 411), (.int (13 : Int) 412), (.int (0 : Int) 413), (.int (7 : Int) 414), (.int (7 : Int) 415), (.int (16 : Int) 416), (.int (13 : Int) 417), (.int (16 : Int) 418), (.int (10 : Int) 419), (.int (15 : Int) 420), (.int (18 : Int) 421), (.int (5 : Int) 422), (.int (16 : Int) 423), (.int (10 : Int) 424), (.int (15 : Int) 425), (.int (13 : Int) 426), (.int (11 : Int) 427), (.int (16 : Int) 428), (.int (13 : Int) 429), (.int (5 : Int) 430), (.int (5 : Int) 431), (.int (0 : Int) 432), (.int (16 : Int) 433), (.int (10 : Int) 434), (.int (1 : Int) 435), (.int (15 : Int) 436), (.int (2 : Int) 437), (.int (0 : Int) 438), (.int (1 : Int) 439)]) 0) (ar []))
noncomputable def o111_G3 (P : Params) : Obj := (Obj.mk (.type "dict") (none) (Data.dict (ar []) 0) (ar []))
noncomputable def o112_G3 (P : Params) : Obj := (Obj.mk (.type "tuple") (none) (Data.seq (ar [.none]) 0) (ar []))
noncomputable def o113_G3 (P : Params) : Obj := (Obj.mk (.type "tuple") (none) (Data.seq (ar [(.int (14 : Int) 0), (.int (9 : Int) 0), (.int (4 : Int) 0), (.int (1 : Int) 0), (.int (2 : Int) 0), (.int (16 : Int) 0), (.int (10 : Int) 0), (.int (16 : Int) 0), (.int (13 : Int) 0), (.int (0 : Int) 0), (.int (7 : Int) 0), (.int (7 : Int) 0), (.int (16 : Int) 0), (.int (13 : Int) 0), (.int (16 : Int) 0), (.int (10 : Int) 0), (.int (15 : Int) 0), (.int (18 : Int) 0), (.int (5 : Int) 0), (.int (16 : Int) 0), (.int (10 : Int) 0), (.int (15 : Int) 0), (.int (13 : Int) 0), (.int (11 : Int) 0), (.int (16 : Int) 0), (.int (13 : Int) 0), (.int (5 : Int) 0), (.int (5 : Int) 0), (.int (0 : Int) 0), (.int (16 : Int) 0), (.int (10 : Int) 0), (.int (1 : Int) 0), (.int (15 : Int) 0), (.int (2 : Int) 0), (.int (0 : Int) 0), (.int (1 : Int) 0)]) 0) (ar []))
noncomputable def o114_G3 (P : Params) : Obj := (Obj.mk (.type "re.Pattern") (none) (Data.fields (ar [(vs "(?:\\r\\n|\\n|\\r(?!\\n))" 402), (.int (32 : Int) 441), (.int (0 : Int) 0), .none, .none, (.ref 113), (.int (0 : Int) 0)])) (ar []))
noncomputable def o115_G3 (P : Params) : Obj := (Obj.mk (.type "tuple") (none) (Data.seq (ar []) 0) (ar []))
noncomputable def o116_G3 (P : Params) : Obj := (Obj.mk .none (none) (Data.fields (ar [])) (ar []))
noncomputable def o117_G3 (P : Params) : Obj := (Obj.mk (.type "tuple") (none) (Data.seq (ar [(vs "data" 448)]) 0) (ar []))
noncomputable def o118_G3 (P : Params) : Obj := (Obj.mk (.type "tuple") (none) (Data.seq (ar []) 0) (ar []))
noncomputable def o119_G3 (P : Params) : Obj := (Obj.mk .none (none) (Data.func (FuncData.mk (sq "quotedata") (sq "quotedata") (dPa (dTo 8)) (.stmts (dBo (dTo 8))) (dSc (dTo 8)) 0 [] .none .none .none .none (none) .none .none 0)) (ar []))
noncomputable def o120_G3 (P : Params) : Obj := (Obj.mk (.type "code") (none) (Data.fields (ar [(vs "quotedata" 445), (vs "quotedata" 446), (vs "/claim/cut.py" 447), (.int (53 : Int) 0), (.int (1 : Int) 0), (.int (0 : Int) 0), (.int (0 : Int) 0), (.int (3 : Int) 0), (.ref 115), (.bool true), (.int (276 : Int) 0), (.ref 116), .none, (.ref 117), (.ref 118), (.ref 119), (.int (449 : Int) 0), (.int (53 : Int) 0), (vs "/claim/cut.py" 450)])) (ar []))
noncomputable def o121_G3 (P : Params) : Obj := (Obj.mk (.type "function") (none) (Data.func (FuncData.mk (sq "quotedata") (sq "quotedata") (dPa (dTo 8)) (.stmts (dBo (dTo 8))) (dSc (dTo 8)) 3 [] .none .none .none (vs "cpy313.smtplib" 383) (none) (.ref 120) .none 0)) (ar []))
noncomputable def o122_G3 (P : Params) : Obj := (Obj.mk (.type "list") (none) (Data.seq (ar [(.int (14 : Int) 457), (.int (10 : Int) 458), (.int (4 : Int) 459), (.int (1 : Int) 460), (.int (1 : Int) 461), (.int (22 : Int) 462), (.int (0 : Int) 463), (.int (31 : Int) 464), (.int (16 : Int) 465), (.int (127 : Int) 466), (.int (0 : Int) 467), (.int (13 : Int) 468), (.int (7 : Int) 469), (.int (22 : Int) 470), (.int (0 : Int) 471), (.int (31 : Int) 472), (.int (16 : Int) 473), (.int (127 : Int) 474), (.int (0 : Int) 475), (.int (1 : Int) 476)]) 0) (ar []))
noncomputable def o123_G3 (P : Params) : Obj := (Obj.mk (.type "dict") (none) (Data.dict (ar []) 0) (ar []))
noncomputable def o124_G3 (P : Params) : Obj := (Obj.mk (.type "tuple") (none) (Data.seq (ar [.none]) 0) (ar []))
noncomputable def o125_G3 (P : Params) : Obj := (Obj.mk (.type "tuple") (none) (Data.seq (ar [(.int (14 : Int) 0), (.int (10 : Int) 0), (.int (4 : Int) 0), (.int (1 : Int) 0), (.int (1 : Int) 0), (.int (22 : Int) 0), (.int (0 : Int) 0), (.int (31 : Int) 0), (.int (16 : Int) 0), (.int (127 : Int) 0), (.int (0 : Int) 0), (.int (13 : Int) 0), (.int (7 : Int) 0), (.int (22 : Int) 0), (.int (0 : Int) 0), (.int (31 : Int) 0), (.int (16 : Int) 0), (.int (127 : Int) 0), (.int (0 : Int) 0), (.int (1 : Int) 0)]) 0) (ar []))
noncomputable def o126_G3 (P : Params) : Obj := (Obj.mk (.type "re.Pattern") (none) (Data.fields (ar [(vs "[\\x00-\\x1F\\x7F]" 455), (.int (32 : Int) 478), (.int (0 : Int) 0), .none, .none, (.ref 125), (.int (0 : Int) 0)])) (ar []))
noncomputable def o127_G3 (P : Params) : Obj := (Obj.mk (.type "list") (none) (Data.seq (ar [(.int (14 : Int) 483), (.int (14 : Int) 484), (.int (4 : Int) 485), (.int (1 : Int) 486), (.int (1 : Int) 487), (.int (9 : Int) 488), (.int (4294966783 : Int) 489), (.int (0 : Int) 490), (.int (0 : Int) 491), (.int (2147483648 : Int) 492), (.int (0 : Int) 493), (.int (0 : Int) 494), (.int (0 : Int) 495), (.int (0 : Int) 496), (.int (0 : Int) 497), (.int (13 : Int) 498), (.int (11 : Int) 499), (.int (9 : Int) 500), (.int (4294966783 : Int) 501), (.int (0 : Int) 502), (.int (0 : Int) 503), (.int (2147483648 : Int) 504), (.int (0 : Int) 505), (.int (0 : Int) 506), (.int (0 : Int) 507), (.int (0 : Int) 508), (.int (0 : Int) 509), (.int (1 : Int) 510)]) 0) (ar []))
noncomputable def o128_G3 (P : Params) : Obj := (Obj.mk (.type "dict") (none) (Data.dict (ar []) 0) (ar []))
noncomputable def o129_G3 (P : Params) : Obj := (Obj.mk (.type "tuple") (none) (Data.seq (ar [.none]) 0) (ar []))
noncomputable def o130_G3 (P : Params) : Obj := (Obj.mk (.type "tuple") (none) (Data.seq (ar [(.int (14 : Int) 0), (.int (14 : Int) 0), (.int (4 : Int) 0), (.int (1 : Int) 0), (.int (1 : Int) 0), (.int (9 : Int) 0), (.int (4294966783 : Int) 0), (.int (0 : Int) 0), (.int (0 : Int) 0), (.int (2147483648 : Int) 0), (.int (0 : Int) 0), (.int (0 : Int) 0), (.int (0 : Int) 0), (.int (0 : Int) 0), (.int (0 : Int) 0), (.int (13 : Int) 0), (.int (11 : Int) 0), (.int (9 : Int) 0), (.int (4294966783 : Int) 0), (.int (0 : Int) 0), (.int (0 : Int) 0), (.int (2147483648 : Int) 0), (.int (0 : Int) 0), (.int (0 : Int) 0), (.int (0 : Int) 0), (.int (0 : Int) 0), (.int (0 : Int) 0), (.int (1 : Int) 0)]) 0) (ar []))
noncomputable def o131_G3 (P : Params) : Obj := (Obj.mk (.type "re.Pattern") (none) (Data.fields (ar [(vs "[\\x00-\\x08\\x0A-\\x1F\\x7F]" 481), (.int (32 : Int) 512), (.int (0 : Int) 0), .none, .none, (.ref 130), (.int (0 : Int) 0)])) (ar []))
noncomputable def o3_G4 (P : Params) : Obj := (Obj.mk (.type "dict") (none) (Data.dict (ar [(de P "__name__" 165 (vs "cpy313.wsgiref.headers" 452)), (de P "__doc__" 166 .none), (de P "__package__" 167 .none), (de P "__loader__" 168 (.builtin "__main__.__loader__#\x6fpaque")), (de P "__spec__" 169 .none), (de P "__annotations__" 170 (.ref 6)), (de P "__builtins__" 171 (.ref 4)), (de P "__file__" 173 (vs "/claim/cut.py" 172)), (de P "__cached__" 174 .none), (de P "_sre" 275 (.ref 12)), (de P "_wall" 288 (.ref 38)), (de P "Whitespace" 382 (.ref 100)), (de P "_twin_re_1" 400 (.ref 109)), (de P "_twin_re_2" 442 (.ref 114)), (de P "CRLF" 444 (Value.str (sq "\x0d\n") 443)), (de P "quotedata" 451 (.ref 121)), (de P "_name_disallowed_re" 479 (.ref 126)), (de P "_value_disallowed_re" 513 (.ref 131)), (de P "Headers" 670 (.ref 254))]) 19) (ar []))
noncomputable def o29_G4 (P : Params) : Obj := (Obj.mk .none (none) (Data.fields (ar [(.int (2 : Int) 0), (.int (0 : Int) 0), (.ref 37), (.int (6 : Int) 0), (.int (0 : Int) 0), (.ref 44), (.int (53 : Int) 0), (.int (0 : Int) 0), (.ref 120), (.int (58 : Int) 0), (.int (0 : Int) 0), (.ref 137)])) (ar []))
noncomputable def o132_G4 (P : Params) : Obj := (Obj.mk (.type "tuple") (none) (Data.seq (ar []) 0) (ar []))
noncomputable def o133_G4 (P : Params) : Obj := (Obj.mk (.type "builtin_function_or_method") (none) (Data.fields (ar [(.builtin "type.__prepare__"), (.type "type")])) (ar []))
noncomputable def o134_G4 (P : Params) : Obj := (Obj.mk (.type "dict") (none) (Data.dict (ar [(de P "__module__" 521 (vs "cpy313.wsgiref.headers" 452)), (de P "__qualname__" 523 (vs "Headers" 522)), (de P "__firstlineno__" 525 (.int (58 : Int) 524)), (de P "__init__" 535 (.ref 146)), (de P "_convert_string_type" 545 (.ref 153)), (de P "__len__" 552 (.ref 160)), (de P "__setitem__" 561 (.ref 167)), (de P "__delitem__" 567 (.ref 172)), (de P "__getitem__" 575 (.ref 179)), (de P "__contains__" 583 (.ref 186)), (de P "get_all" 591 (.ref 193)), (de P "get" 602 (.ref 201)), (de P "keys" 608 (.ref 206)), (de P "values" 614 (.ref 211)), (de P "items" 621 (.ref 218)), (de P "__repr__" 628 (.ref 225)), (de P "__str__" 634 (.ref 230)), (de P "__bytes__" 641 (.ref 237)), (de P "setdefault" 651 (.ref 244)), (de P "add_header" 661 (.ref 251)), (de P "__static_attributes__" 663 (.ref 252))]) 21) (ar []))
noncomputable def o135_G4 (P : Params) : Obj := (Obj.mk (.type "tuple") (none) (Data.seq (ar []) 0) (ar []))
noncomputable def o136_G4 (P : Params) : Obj := (Obj.mk .none (none) (Data.fields (ar [(.int (60 : Int) 0), (.int (4 : Int) 0), (.ref 145), (.int (70 : Int) 0), (.int (4 : Int) 0), (.ref 152), (.int (78 : Int) 0), (.int (4 : Int) 0), (.ref 159), (.int (81 : Int) 0), (.int (4 : Int) 0), (.ref 166), (.int (85 : Int) 0), (.int (4 : Int) 0), (.ref 171), (.int (89 : Int) 0), (.int (4 : Int) 0), (.ref 178), (.int (92 : Int) 0), (.int (4 : Int) 0), (.ref 185), (.int (95 : Int) 0), (.int (4 : Int) 0), (.ref 192), (.int (98 : Int) 0), (.int (4 : Int) 0), (.ref 200), (.int (105 : Int) 0), (.int (4 : Int) 0), (.ref 205), (.int (108 : Int) 0), (.int (4 : Int) 0), (.ref 210), (.int (111 : Int) 0), (.int (4 : Int) 0), (.ref 217), (.int (114 : Int) 0), (.int (4 : Int) 0), (.ref 224), (.int (117 : Int) 0), (.int (4 : Int) 0), (.ref 229), (.int (120 : Int) 0), (.int (4 : Int) 0), (.ref 236), (.int (123 : Int) 0), (.int (4 : Int) 0), (.ref 243), (.int (131 : Int) 0), (.int (4 : Int) 0), (.ref 250)])) (ar []))
noncomputable def o137_G4 (P : Params) : Obj := (Obj.mk (.type "code") (none) (Data.fields (ar [(vs "Headers" 516), (vs "Headers" 517), (vs "/claim/cut.py" 518), (.int (58 : Int) 0), (.int (0 : Int) 0), (.int (0 : Int) 0), (.int (0 : Int) 0), (.int (0 : Int) 0), (.ref 135), (.bool false), (.int (276 : Int) 0), (.ref 136), .none, .none, .none, .none, (.int (519 : Int) 0), (.int (58 : Int) 0), (vs "/claim/cut.py" 520)])) (ar []))
noncomputable def o138_G4 (P : Params) : Obj := (Obj.mk (.type "frame") (none) Data.plain (ar [(some (.ref 137)), (some (.ref 3)), (some (.ref 134)), (none), (some (vs "cpy313.wsgiref.headers" 452)), (none), (some (.ref 0))]))
noncomputable def o139_G4 (P : Params) : Obj := (Obj.mk (.type "tuple") (none) (Data.seq (ar [.none]) 0) (ar []))
noncomputable def o140_G4 (P : Params) : Obj := (Obj.mk (.type "tuple") (none) (Data.seq (ar []) 0) (ar []))
noncomputable def o141_G4 (P : Params) : Obj := (Obj.mk .none (none) (Data.fields (ar [])) (ar []))
noncomputable def o142_G4 (P : Params) : Obj := (Obj.mk (.type "tuple") (none) (Data.seq (ar [(vs "self" 529), (vs "headers" 530), (vs "k" 531), (vs "v" 532)]) 0) (ar []))
noncomputable def o143_G4 (P : Params) : Obj := (Obj.mk (.type "tuple") (none) (Data.seq (ar []) 0) (ar []))
noncomputable def o144_G4 (P : Params) : Obj := (Obj.mk .none (none) (Data.func (FuncData.mk (sq "__init__") (sq "Headers.__init__") (dPa (dCl 12 0)) (.stmts (dBo (dCl 12 0))) (dSc (dCl 12 0)) 0 [] .none .none .none .none (none) .none .none 0)) (ar []))
noncomputable def o145_G4 (P : Params) : Obj := (Obj.mk (.type "code") (none) (Data.fields (ar [(vs "__init__" 526), (vs "Headers.__init__" 527), (vs "/claim/cut.py" 528), (.int (60 : Int) 0), (.int (2 : Int) 0), (.int (0 : Int) 0), (.int (0 : Int) 0), (.int (3 : Int) 0), (.ref 140), (.bool true), (.int (276 : Int) 0), (.ref 141), .none, (.ref 142), (.ref 143), (.ref 144), (.int (533 : Int) 0), (.int (60 : Int) 0), (vs "/claim/cut.py" 534)])) (ar []))
noncomputable def o146_G4 (P : Params) : Obj := (Obj.mk (.type "function") (none) (Data.func (FuncData.mk (sq "__init__") (sq "Headers.__init__") (dPa (dCl 12 0)) (.stmts (dBo (dCl 12 0))) (dSc (dCl 12 0)) 3 [] (.ref 139) .none .none (vs "cpy313.wsgiref.headers" 452) (none) (.ref 145) .none 0)) (ar []))
noncomputable def o147_G4 (P : Params) : Obj := (Obj.mk (.type "tuple") (none) (Data.seq (ar []) 0) (ar []))
noncomputable def o148_G4 (P : Params) : Obj := (Obj.mk .none (none) (Data.fields (ar [])) (ar []))
noncomputable def o149_G4 (P : Params) : Obj := (Obj.mk (.type "tuple") (none) (Data.seq (ar [(vs "self" 539), (vs "value" 540), (vs "name" 541), (vs "regex" 542)]) 0) (ar []))
noncomputable def o150_G4 (P : Params) : Obj := (Obj.mk (.type "tuple") (none) (Data.seq (ar []) 0) (ar []))
noncomputable def o151_G4 (P : Params) : Obj := (Obj.mk .none (none) (Data.func (FuncData.mk (sq "_convert_string_type") (sq "Headers._convert_string_type") (dPa (dCl 12 1)) (.stmts (dBo (dCl 12 1))) (dSc (dCl 12 1)) 0 [] .none .none .none .none (none) .none .none 0)) (ar []))
noncomputable def o152_G4 (P : Params) : Obj := (Obj.mk (.type "code") (none) (Data.fields (ar [(vs "_convert_string_type" 536), (vs "Headers._convert_string_type" 537), (vs "/claim/cut.py" 538), (.int (70 : Int) 0), (.int (2 : Int) 0), (.int (0 : Int) 0), (.int (1 : Int) 0), (.int (3 : Int) 0), (.ref 147), (.bool true), (.int (276 : Int) 0), (.ref 148), .none, (.ref 149), (.ref 150), (.ref 151), (.int (543 : Int) 0), (.int (70 : Int) 0), (vs "/claim/cut.py" 544)])) (ar []))
noncomputable def o153_G4 (P : Params) : Obj := (Obj.mk (.type "function") (none) (Data.func (FuncData.mk (sq "_convert_string_type") (sq "Headers._convert_string_type") (dPa (dCl 12 1)) (.stmts (dBo (dCl 12 1))) (dSc (dCl 12 1)) 3 [] .none .none .none (vs "cpy313.wsgiref.headers" 452) (none) (.ref 152) .none 0)) (ar []))
noncomputable def o154_G4 (P : Params) : Obj := (Obj.mk (.type "tuple") (none) (Data.seq (ar []) 0) (ar []))
noncomputable def o155_G4 (P : Params) : Obj := (Obj.mk .none (none) (Data.fields (ar [])) (ar []))
noncomputable def o156_G4 (P : Params) : Obj := (Obj.mk (.type "tuple") (none) (Data.seq (ar [(vs "self" 549)]) 0) (ar []))
noncomputable def o157_G4 (P : Params) : Obj := (Obj.mk (.type "tuple") (none) (Data.seq (ar []) 0) (ar []))
noncomputable def o158_G4 (P : Params) : Obj := (Obj.mk .none (none) (Data.func (FuncData.mk (sq "__len__") (sq "Headers.__len__") (dPa (dCl 12 2)) (.stmts (dBo (dCl 12 2))) (dSc (dCl 12 2)) 0 [] .none .none .none .none (none) .none .none 0)) (ar []))
noncomputable def o159_G4 (P : Params) : Obj := (Obj.mk (.type "code") (none) (Data.fields (ar [(vs "__len__" 546), (vs "Headers.__len__" 547), (vs "/claim/cut.py" 548), (.int (78 : Int) 0), (.int (1 : Int) 0), (.int (0 : Int) 0), (.int (0 : Int) 0), (.int (3 : Int) 0), (.ref 154), (.bool true), (.int (276 : Int) 0), (.ref 155), .none, (.ref 156), (.ref 157), (.ref 158), (.int (550 : Int) 0), (.int (78 : Int) 0), (vs "/claim/cut.py" 551)])) (ar []))
noncomputable def o160_G4 (P : Params) : Obj := (Obj.mk (.type "function") (none) (Data.func (FuncData.mk (sq "__len__") (sq "Headers.__len__") (dPa (dCl 12 2)) (.stmts (dBo (dCl 12 2))) (dSc (dCl 12 2)) 3 [] .none .none .none (vs "cpy313.wsgiref.headers" 452) (none) (.ref 159) .none 0)) (ar []))
noncomputable def o161_G4 (P : Params) : Obj := (Obj.mk (.type "tuple") (none) (Data.seq (ar []) 0) (ar []))
noncomputable def o162_G4 (P : Params) : Obj := (Obj.mk .none (none) (Data.fields (ar [])) (ar []))
noncomputable def o163_G4 (P : Params) : Obj := (Obj.mk (.type "tuple") (none) (Data.seq (ar [(vs "self" 556), (vs "name" 557), (vs "val" 558)]) 0) (ar []))
noncomputable def o164_G4 (P : Params) : Obj := (Obj.mk (.type "tuple") (none) (Data.seq (ar []) 0) (ar []))
noncomputable def o165_G4 (P : Params) : Obj := (Obj.mk .none (none) (Data.func (FuncData.mk (sq "__setitem__") (sq "Headers.__setitem__") (dPa (dCl 12 3)) (.stmts (dBo (dCl 12 3))) (dSc (dCl 12 3)) 0 [] .none .none .none .none (none) .none .none 0)) (ar []))
noncomputable def o166_G4 (P : Params) : Obj := (Obj.mk (.type "code") (none) (Data.fields (ar [(vs "__setitem__" 553), (vs "Headers.__setitem__" 554), (vs "/claim/cut.py" 555), (.int (81 : Int) 0), (.int (3 : Int) 0), (.int (0 : Int) 0), (.int (0 : Int) 0), (.int (3 : Int) 0), (.ref 161), (.bool true), (.int (276 : Int) 0), (.ref 162), .none, (.ref 163), (.ref 164), (.ref 165), (.int (559 : Int) 0), (.int (81 : Int) 0), (vs "/claim/cut.py" 560)])) (ar []))
noncomputable def o167_G4 (P : Params) : Obj := (Obj.mk (.type "function") (none) (Data.func (FuncData.mk (sq "__setitem__") (sq "Headers.__setitem__") (dPa (dCl 12 3)) (.stmts (dBo (dCl 12 3))) (dSc (dCl 12 3)) 3 [] .none .none .none (vs "cpy313.wsgiref.headers" 452) (none) (.ref 166) .none 0)) (ar []))
noncomputable def o168_G4 (P : Params) : Obj := (Obj.mk (.type "tuple") (none) (Data.seq (ar []) 0) (ar []))
noncomputable def o169_G4 (P : Params) : Obj := (Obj.mk .none (none) (Data.fields (ar [])) (ar []))
noncomputable def o170_G4 (P : Params) : Obj := (Obj.mk .none (none) (Data.func (FuncData.mk (sq "__delitem__") (sq "Headers.__delitem__") (dPa (dCl 12 4)) (.stmts (dBo (dCl 12 4))) (dSc (dCl 12 4)) 0 [] .none .none .none .none (none) .none .none 0)) (ar []))
noncomputable def o171_G4 (P : Params) : Obj := (Obj.mk (.type "code") (none) (Data.fields (ar [(vs "__delitem__" 562), (vs "Headers.__delitem__" 563), (vs "/claim/cut.py" 564), (.int (85 : Int) 0), (.int (2 : Int) 0), (.int (0 : Int) 0), (.int (0 : Int) 0), (.int (3 : Int) 0), (.ref 168), (.bool true), (.int (276 : Int) 0), (.ref 169), .none, .none, .none, (.ref 170), (.int (565 : Int) 0), (.int (85 : Int) 0), (vs "/claim/cut.py" 566)])) (ar []))
noncomputable def o172_G4 (P : Params) : Obj := (Obj.mk (.type "function") (none) (Data.func (FuncData.mk (sq "__delitem__") (sq "Headers.__delitem__") (dPa (dCl 12 4)) (.stmts (dBo (dCl 12 4))) (dSc (dCl 12 4)) 3 [] .none .none .none (vs "cpy313.wsgiref.headers" 452) (none) (.ref 171) .none 0)) (ar []))
noncomputable def o173_G4 (P : Params) : Obj := (Obj.mk (.type "tuple") (none) (Data.seq (ar []) 0) (ar []))
noncomputable def o174_G4 (P : Params) : Obj := (Obj.mk .none (none) (Data.fields (ar [])) (ar []))
noncomputable def o175_G4 (P : Params) : Obj := (Obj.mk (.type "tuple") (none) (Data.seq (ar [(vs "self" 571), (vs "name" 572)]) 0) (ar []))
noncomputable def o176_G4 (P : Params) : Obj := (Obj.mk (.type "tuple") (none) (Data.seq (ar []) 0) (ar []))
noncomputable def o177_G4 (P : Params) : Obj := (Obj.mk .none (none) (Data.func (FuncData.mk (sq "__getitem__") (sq "Headers.__getitem__") (dPa (dCl 12 5)) (.stmts (dBo (dCl 12 5))) (dSc (dCl 12 5)) 0 [] .none .none .none .none (none) .none .none 0)) (ar []))
noncomputable def o178_G4 (P : Params) : Obj := (Obj.mk (.type "code") (none) (Data.fields (ar [(vs "__getitem__" 568), (vs "Headers.__getitem__" 569), (vs "/claim/cut.py" 570), (.int (89 : Int) 0), (.int (2 : Int) 0), (.int (0 : Int) 0), (.int (0 : Int) 0), (.int (3 : Int) 0), (.ref 173), (.bool true), (.int (276 : Int) 0), (.ref 174), .none, (.ref 175), (.ref 176), (.ref 177), (.int (573 : Int) 0), (.int (89 : Int) 0), (vs "/claim/cut.py" 574)])) (ar []))
noncomputable def o179_G4 (P : Params) : Obj := (Obj.mk (.type "function") (none) (Data.func (FuncData.mk (sq "__getitem__") (sq "Headers.__getitem__") (dPa (dCl 12 5)) (.stmts (dBo (dCl 12 5))) (dSc (dCl 12 5)) 3 [] .none .none .none (vs "cpy313.wsgiref.headers" 452) (none) (.ref 178) .none 0)) (ar []))
noncomputable def o180_G4 (P : Params) : Obj := (Obj.mk (.type "tuple") (none) (Data.seq (ar []) 0) (ar []))
noncomputable def o181_G4 (P : Params) : Obj := (Obj.mk .none (none) (Data.fields (ar [])) (ar []))
noncomputable def o182_G4 (P : Params) : Obj := (Obj.mk (.type "tuple") (none) (Data.seq (ar [(vs "self" 579), (vs "name" 580)]) 0) (ar []))
noncomputable def o183_G4 (P : Params) : Obj := (Obj.mk (.type "tuple") (none) (Data.seq (ar []) 0) (ar []))
noncomputable def o184_G4 (P : Params) : Obj := (Obj.mk .none (none) (Data.func (FuncData.mk (sq "__contains__") (sq "Headers.__contains__") (dPa (dCl 12 6)) (.stmts (dBo (dCl 12 6))) (dSc (dCl 12 6)) 0 [] .none .none .none .none (none) .none .none 0)) (ar []))
noncomputable def o185_G4 (P : Params) : Obj := (Obj.mk (.type "code") (none) (Data.fields (ar [(vs "__contains__" 576), (vs "Headers.__contains__" 577), (vs "/claim/cut.py" 578), (.int (92 : Int) 0), (.int (2 : Int) 0), (.int (0 : Int) 0), (.int (0 : Int) 0), (.int (3 : Int) 0), (.ref 180), (.bool true), (.int (276 : Int) 0), (.ref 181), .none, (.ref 182), (.ref 183), (.ref 184), (.int (581 : Int) 0), (.int (92 : Int) 0), (vs "/claim/cut.py" 582)])) (ar []))
noncomputable def o186_G4 (P : Params) : Obj := (Obj.mk (.type "function") (none) (Data.func (FuncData.mk (sq "__contains__") (sq "Headers.__contains__") (dPa (dCl 12 6)) (.stmts (dBo (dCl 12 6))) (dSc (dCl 12 6)) 3 [] .none .none .none (vs "cpy313.wsgiref.headers" 452) (none) (.ref 185) .none 0)) (ar []))
noncomputable def o187_G4 (P : Params) : Obj := (Obj.mk (.type "tuple") (none) (Data.seq (ar []) 0) (ar []))
noncomputable def o188_G4 (P : Params) : Obj := (Obj.mk .none (none) (Data.fields (ar [])) (ar []))
noncomputable def o189_G4 (P : Params) : Obj := (Obj.mk (.type "tuple") (none) (Data.seq (ar [(vs "self" 587), (vs "name" 588)]) 0) (ar []))
noncomputable def o190_G4 (P : Params) : Obj := (Obj.mk (.type "tuple") (none) (Data.seq (ar []) 0) (ar []))
noncomputable def o191_G4 (P : Params) : Obj := (Obj.mk .none (none) (Data.func (FuncData.mk (sq "get_all") (sq "Headers.get_all") (dPa (dCl 12 7)) (.stmts (dBo (dCl 12 7))) (dSc (dCl 12 7)) 0 [] .none .none .none .none (none) .none .none 0)) (ar []))
noncomputable def o192_G4 (P : Params) : Obj := (Obj.mk (.type "code") (none) (Data.fields (ar [(vs "get_all" 584), (vs "Headers.get_all" 585), (vs "/claim/cut.py" 586), (.int (95 : Int) 0), (.int (2 : Int) 0), (.int (0 : Int) 0), (.int (0 : Int) 0), (.int (3 : Int) 0), (.ref 187), (.bool true), (.int (276 : Int) 0), (.ref 188), .none, (.ref 189), (.ref 190), (.ref 191), (.int (589 : Int) 0), (.int (95 : Int) 0), (vs "/claim/cut.py" 590)])) (ar []))
noncomputable def o193_G4 (P : Params) : Obj := (Obj.mk (.type "function") (none) (Data.func (FuncData.mk (sq "get_all") (sq "Headers.get_all") (dPa (dCl 12 7)) (.stmts (dBo (dCl 12 7))) (dSc (dCl 12 7)) 3 [] .none .none .none (vs "cpy313.wsgiref.headers" 452) (none) (.ref 192) .none 0)) (ar []))
noncomputable def o194_G4 (P : Params) : Obj := (Obj.mk (.type "tuple") (none) (Data.seq (ar [.none]) 0) (ar []))
noncomputable def o195_G4 (P : Params) : Obj := (Obj.mk (.type "tuple") (none) (Data.seq (ar []) 0) (ar []))
noncomputable def o196_G4 (P : Params) : Obj := (Obj.mk .none (none) (Data.fields (ar [])) (ar []))
noncomputable def o197_G4 (P : Params) : Obj := (Obj.mk (.type "tuple") (none) (Data.seq (ar [(vs "self" 595), (vs "name" 596), (vs "default" 597), (vs "k" 598), (vs "v" 599)]) 0) (ar []))
noncomputable def o198_G4 (P : Params) : Obj := (Obj.mk (.type "tuple") (none) (Data.seq (ar []) 0) (ar []))
noncomputable def o199_G4 (P : Params) : Obj := (Obj.mk .none (none) (Data.func (FuncData.mk (sq "get") (sq "Headers.get") (dPa (dCl 12 8)) (.stmts (dBo (dCl 12 8))) (dSc (dCl 12 8)) 0 [] .none .none .none .none (none) .none .none 0)) (ar []))
noncomputable def o200_G4 (P : Params) : Obj := (Obj.mk (.type "code") (none) (Data.fields (ar [(vs "get" 592), (vs "Headers.get" 593), (vs "/claim/cut.py" 594), (.int (98 : Int) 0), (.int (3 : Int) 0), (.int (0 : Int) 0), (.int (0 : Int) 0), (.int (3 : Int) 0), (.ref 195), (.bool true), (.int (276 : Int) 0), (.ref 196), .none, (.ref 197), (.ref 198), (.ref 199), (.int (600 : Int) 0), (.int (98 : Int) 0), (vs "/claim/cut.py" 601)])) (ar []))
noncomputable def o201_G4 (P : Params) : Obj := (Obj.mk (.type "function") (none) (Data.func (FuncData.mk (sq "get") (sq "Headers.get") (dPa (dCl 12 8)) (.stmts (dBo (dCl 12 8))) (dSc (dCl 12 8)) 3 [] (.ref 194) .none .none (vs "cpy313.wsgiref.headers" 452) (none) (.ref 200) .none 0)) (ar []))
noncomputable def o202_G4 (P : Params) : Obj := (Obj.mk (.type "tuple") (none) (Data.seq (ar []) 0) (ar []))
noncomputable def o203_G4 (P : Params) : Obj := (Obj.mk .none (none) (Data.fields (ar [])) (ar []))
noncomputable def o204_G4 (P : Params) : Obj := (Obj.mk .none (none) (Data.func (FuncData.mk (sq "keys") (sq "Headers.keys") (dPa (dCl 12 9)) (.stmts (dBo (dCl 12 9))) (dSc (dCl 12 9)) 0 [] .none .none .none .none (none) .none .none 0)) (ar []))
noncomputable def o205_G4 (P : Params) : Obj := (Obj.mk (.type "code") (none) (Data.fields (ar [(vs "keys" 603), (vs "Headers.keys" 604), (vs "/claim/cut.py" 605), (.int (105 : Int) 0), (.int (1 : Int) 0), (.int (0 : Int) 0), (.int (0 : Int) 0), (.int (3 : Int) 0), (.ref 202), (.bool true), (.int (276 : Int) 0), (.ref 203), .none, .none, .none, (.ref 204), (.int (606 : Int) 0), (.int (105 : Int) 0), (vs "/claim/cut.py" 607)])) (ar []))
noncomputable def o206_G4 (P : Params) : Obj := (Obj.mk (.type "function") (none) (Data.func (FuncData.mk (sq "keys") (sq "Headers.keys") (dPa (dCl 12 9)) (.stmts (dBo (dCl 12 9))) (dSc (dCl 12 9)) 3 [] .none .none .none (vs "cpy313.wsgiref.headers" 452) (none) (.ref 205) .none 0)) (ar []))
noncomputable def o207_G4 (P : Params) : Obj := (Obj.mk (.type "tuple") (none) (Data.seq (ar []) 0) (ar []))
noncomputable def o208_G4 (P : Params) : Obj := (Obj.mk .none (none) (Data.fields (ar [])) (ar []))
noncomputable def o209_G4 (P : Params) : Obj := (Obj.mk .none (none) (Data.func (FuncData.mk (sq "values") (sq "Headers.values") (dPa (dCl 12 10)) (.stmts (dBo (dCl 12 10))) (dSc (dCl 12 10)) 0 [] .none .none .none .none (none) .none .none 0)) (ar []))
noncomputable def o210_G4 (P : Params) : Obj := (Obj.mk (.type "code") (none) (Data.fields (ar [(vs "values" 609), (vs "Headers.values" 610), (vs "/claim/cut.py" 611), (.int (108 : Int) 0), (.int (1 : Int) 0), (.int (0 : Int) 0), (.int (0 : Int) 0), (.int (3 : Int) 0), (.ref 207), (.bool true), (.int (276 : Int) 0), (.ref 208), .none, .none, .none, (.ref 209), (.int (612 : Int) 0), (.int (108 : Int) 0), (vs "/claim/cut.py" 613)])) (ar []))
noncomputable def o211_G4 (P : Params) : Obj := (Obj.mk (.type "function") (none) (Data.func (FuncData.mk (sq "values") (sq "Headers.values") (dPa (dCl 12 10)) (.stmts (dBo (dCl 12 10))) (dSc (dCl 12 10)) 3 [] .none .none .none (vs "cpy313.wsgiref.headers" 452) (none) (.ref 210) .none 0)) (ar []))
noncomputable def o212_G4 (P : Params) : Obj := (Obj.mk (.type "tuple") (none) (Data.seq (ar []) 0) (ar []))
noncomputable def o213_G4 (P : Params) : Obj := (Obj.mk .none (none) (Data.fields (ar [])) (ar []))
noncomputable def o214_G4 (P : Params) : Obj := (Obj.mk (.type "tuple") (none) (Data.seq (ar [(vs "self" 618)]) 0) (ar []))
noncomputable def o215_G4 (P : Params) : Obj := (Obj.mk (.type "tuple") (none) (Data.seq (ar []) 0) (ar []))
noncomputable def o216_G4 (P : Params) : Obj := (Obj.mk .none (none) (Data.func (FuncData.mk (sq "items") (sq "Headers.items") (dPa (dCl 12 11)) (.stmts (dBo (dCl 12 11))) (dSc (dCl 12 11)) 0 [] .none .none .none .none (none) .none .none 0)) (ar []))
noncomputable def o217_G4 (P : Params) : Obj := (Obj.mk (.type "code") (none) (Data.fields (ar [(vs "items" 615), (vs "Headers.items" 616), (vs "/claim/cut.py" 617), (.int (111 : Int) 0), (.int (1 : Int) 0), (.int (0 : Int) 0), (.int (0 : Int) 0), (.int (3 : Int) 0), (.ref 212), (.bool true), (.int (276 : Int) 0), (.ref 213), .none, (.ref 214), (.ref 215), (.ref 216), (.int (619 : Int) 0), (.int (111 : Int) 0), (vs "/claim/cut.py" 620)])) (ar []))
noncomputable def o218_G4 (P : Params) : Obj := (Obj.mk (.type "function") (none) (Data.func (FuncData.mk (sq "items") (sq "Headers.items") (dPa (dCl 12 11)) (.stmts (dBo (dCl 12 11))) (dSc (dCl 12 11)) 3 [] .none .none .none (vs "cpy313.wsgiref.headers" 452) (none) (.ref 217) .none 0)) (ar []))
noncomputable def o219_G4 (P : Params) : Obj := (Obj.mk (.type "tuple") (none) (Data.seq (ar []) 0) (ar []))
noncomputable def o220_G4 (P : Params) : Obj := (Obj.mk .none (none) (Data.fields (ar [])) (ar []))
noncomputable def o221_G4 (P : Params) : Obj := (Obj.mk (.type "tuple") (none) (Data.seq (ar [(vs "self" 625)]) 0) (ar []))
noncomputable def o222_G4 (P : Params) : Obj := (Obj.mk (.type "tuple") (none) (Data.seq (ar []) 0) (ar []))
noncomputable def o223_G4 (P : Params) : Obj := (Obj.mk .none (none) (Data.func (FuncData.mk (sq "__repr__") (sq "Headers.__repr__") (dPa (dCl 12 12)) (.stmts (dBo (dCl 12 12))) (dSc (dCl 12 12)) 0 [] .none .none .none .none (none) .none .none 0)) (ar []))
noncomputable def o224_G4 (P : Params) : Obj := (Obj.mk (.type "code") (none) (Data.fields (ar [(vs "__repr__" 622), (vs "Headers.__repr__" 623), (vs "/claim/cut.py" 624), (.int (114 : Int) 0), (.int (1 : Int) 0), (.int (0 : Int) 0), (.int (0 : Int) 0), (.int (3 : Int) 0), (.ref 219), (.bool true), (.int (276 : Int) 0), (.ref 220), .none, (.ref 221), (.ref 222), (.ref 223), (.int (626 : Int) 0), (.int (114 : Int) 0), (vs "/claim/cut.py" 627)])) (ar []))
noncomputable def o225_G4 (P : Params) : Obj := (Obj.mk (.type "function") (none) (Data.func (FuncData.mk (sq "__repr__") (sq "Headers.__repr__") (dPa (dCl 12 12)) (.stmts (dBo (dCl 12 12))) (dSc (dCl 12 12)) 3 [] .none .none .none (vs "cpy313.wsgiref.headers" 452) (none) (.ref 224) .none 0)) (ar []))
noncomputable def o226_G4 (P : Params) : Obj := (Obj.mk (.type "tuple") (none) (Data.seq (ar []) 0) (ar []))
noncomputable def o227_G4 (P : Params) : Obj := (Obj.mk .none (none) (Data.fields (ar [])) (ar []))
noncomputable def o228_G4 (P : Params) : Obj := (Obj.mk .none (none) (Data.func (FuncData.mk (sq "__str__") (sq "Headers.__str__") (dPa (dCl 12 13)) (.stmts (dBo (dCl 12 13))) (dSc (dCl 12 13)) 0 [] .none .none .none .none (none) .none .none 0)) (ar []))
noncomputable def o229_G4 (P : Params) : Obj := (Obj.mk (.type "code") (none) (Data.fields (ar [(vs "__str__" 629), (vs "Headers.__str__" 630), (vs "/claim/cut.py" 631), (.int (117 : Int) 0), (.int (1 : Int) 0), (.int (0 : Int) 0), (.int (0 : Int) 0), (.int (3 : Int) 0), (.ref 226), (.bool true), (.int (276 : Int) 0), (.ref 227), .none, .none, .none, (.ref 228), (.int (632 : Int) 0), (.int (117 : Int) 0), (vs "/claim/cut.py" 633)])) (ar []))
noncomputable def o230_G4 (P : Params) : Obj := (Obj.mk (.type "function") (none) (Data.func (FuncData.mk (sq "__str__") (sq "Headers.__str__") (dPa (dCl 12 13)) (.stmts (dBo (dCl 12 13))) (dSc (dCl 12 13)) 3 [] .none .none .none (vs "cpy313.wsgiref.headers" 452) (none) (.ref 229) .none 0)) (ar []))
noncomputable def o231_G4 (P : Params) : Obj := (Obj.mk (.type "tuple") (none) (Data.seq (ar []) 0) (ar []))
noncomputable def o232_G4 (P : Params) : Obj := (Obj.mk .none (none) (Data.fields (ar [])) (ar []))
noncomputable def o233_G4 (P : Params) : Obj := (Obj.mk (.type "tuple") (none) (Data.seq (ar [(vs "self" 638)]) 0) (ar []))
noncomputable def o234_G4 (P : Params) : Obj := (Obj.mk (.type "tuple") (none) (Data.seq (ar []) 0) (ar []))
noncomputable def o235_G4 (P : Params) : Obj := (Obj.mk .none (none) (Data.func (FuncData.mk (sq "__bytes__") (sq "Headers.__bytes__") (dPa (dCl 12 14)) (.stmts (dBo (dCl 12 14))) (dSc (dCl 12 14)) 0 [] .none .none .none .none (none) .none .none 0)) (ar []))
noncomputable def o236_G4 (P : Params) : Obj := (Obj.mk (.type "code") (none) (Data.fields (ar [(vs "__bytes__" 635), (vs "Headers.__bytes__" 636), (vs "/claim/cut.py" 637), (.int (120 : Int) 0), (.int (1 : Int) 0), (.int (0 : Int) 0), (.int (0 : Int) 0), (.int (3 : Int) 0), (.ref 231), (.bool true), (.int (276 : Int) 0), (.ref 232), .none, (.ref 233), (.ref 234), (.ref 235), (.int (639 : Int) 0), (.int (120 : Int) 0), (vs "/claim/cut.py" 640)])) (ar []))
noncomputable def o237_G4 (P : Params) : Obj := (Obj.mk (.type "function") (none) (Data.func (FuncData.mk (sq "__bytes__") (sq "Headers.__bytes__") (dPa (dCl 12 14)) (.stmts (dBo (dCl 12 14))) (dSc (dCl 12 14)) 3 [] .none .none .none (vs "cpy313.wsgiref.headers" 452) (none) (.ref 236) .none 0)) (ar []))
noncomputable def o238_G4 (P : Params) : Obj := (Obj.mk (.type "tuple") (none) (Data.seq (ar []) 0) (ar []))
noncomputable def o239_G4 (P : Params) : Obj := (Obj.mk .none (none) (Data.fields (ar [])) (ar []))
noncomputable def o240_G4 (P : Params) : Obj := (Obj.mk (.type "tuple") (none) (Data.seq (ar [(vs "self" 645), (vs "name" 646), (vs "value" 647), (vs "result" 648)]) 0) (ar []))
noncomputable def o241_G4 (P : Params) : Obj := (Obj.mk (.type "tuple") (none) (Data.seq (ar []) 0) (ar []))
noncomputable def o242_G4 (P : Params) : Obj := (Obj.mk .none (none) (Data.func (FuncData.mk (sq "setdefault") (sq "Headers.setdefault") (dPa (dCl 12 15)) (.stmts (dBo (dCl 12 15))) (dSc (dCl 12 15)) 0 [] .none .none .none .none (none) .none .none 0)) (ar []))
noncomputable def o243_G4 (P : Params) : Obj := (Obj.mk (.type "code") (none) (Data.fields (ar [(vs "setdefault" 642), (vs "Headers.setdefault" 643), (vs "/claim/cut.py" 644), (.int (123 : Int) 0), (.int (3 : Int) 0), (.int (0 : Int) 0), (.int (0 : Int) 0), (.int (3 : Int) 0), (.ref 238), (.bool true), (.int (276 : Int) 0), (.ref 239), .none, (.ref 240), (.ref 241), (.ref 242), (.int (649 : Int) 0), (.int (123 : Int) 0), (vs "/claim/cut.py" 650)])) (ar []))
noncomputable def o244_G4 (P : Params) : Obj := (Obj.mk (.type "function") (none) (Data.func (FuncData.mk (sq "setdefault") (sq "Headers.setdefault") (dPa (dCl 12 15)) (.stmts (dBo (dCl 12 15))) (dSc (dCl 12 15)) 3 [] .none .none .none (vs "cpy313.wsgiref.headers" 452) (none) (.ref 243) .none 0)) (ar []))
noncomputable def o245_G4 (P : Params) : Obj := (Obj.mk (.type "tuple") (none) (Data.seq (ar []) 0) (ar []))
noncomputable def o246_G4 (P : Params) : Obj := (Obj.mk .none (none) (Data.fields (ar [])) (ar []))
noncomputable def o247_G4 (P : Params) : Obj := (Obj.mk (.type "tuple") (none) (Data.seq (ar [(vs "self" 655), (vs "_name" 656), (vs "_value" 657), (vs "_params" 658)]) 0) (ar []))
noncomputable def o248_G4 (P : Params) : Obj := (Obj.mk (.type "tuple") (none) (Data.seq (ar []) 0) (ar []))
noncomputable def o249_G4 (P : Params) : Obj := (Obj.mk .none (none) (Data.func (FuncData.mk (sq "add_header") (sq "Headers.add_header") (dPa (dCl 12 16)) (.stmts (dBo (dCl 12 16))) (dSc (dCl 12 16)) 0 [] .none .none .none .none (none) .none .none 0)) (ar []))
noncomputable def o250_G4 (P : Params) : Obj := (Obj.mk (.type "code") (none) (Data.fields (ar [(vs "add_header" 652), (vs "Headers.add_header" 653), (vs "/claim/cut.py" 654), (.int (131 : Int) 0), (.int (3 : Int) 0), (.int (0 : Int) 0), (.int (0 : Int) 0), (.int (11 : Int) 0), (.ref 245), (.bool true), (.int (276 : Int) 0), (.ref 246), .none, (.ref 247), (.ref 248), (.ref 249), (.int (659 : Int) 0), (.int (131 : Int) 0), (vs "/claim/cut.py" 660)])) (ar []))
noncomputable def o251_G4 (P : Params) : Obj := (Obj.mk (.type "function") (none) (Data.func (FuncData.mk (sq "add_header") (sq "Headers.add_header") (dPa (dCl 12 16)) (.stmts (dBo (dCl 12 16))) (dSc (dCl 12 16)) 3 [] .none .none .none (vs "cpy313.wsgiref.headers" 452) (none) (.ref 250) .none 0)) (ar []))
noncomputable def o252_G4 (P : Params) : Obj := (Obj.mk (.type "tuple") (none) (Data.seq (ar [(vs "_headers" 662)]) 0) (ar []))
noncomputable def o253_G4 (P : Params) : Obj := (Obj.mk (.type "dict") (none) (Data.dict (ar [(de P "__module__" 521 (vs "cpy313.wsgiref.headers" 452)), (de P "__firstlineno__" 525 (.int (58 : Int) 524)), (de P "__init__" 535 (.ref 146)), (de P "_convert_string_type" 545 (.ref 153)), (de P "__len__" 552 (.ref 160)), (de P "__setitem__" 561 (.ref 167)), (de P "__delitem__" 567 (.ref 172)), (de P "__getitem__" 575 (.ref 179)), (de P "__contains__" 583 (.ref 186)), (de P "get_all" 591 (.ref 193)), (de P "get" 602 (.ref 201)), (de P "keys" 608 (.ref 206)), (de P "values" 614 (.ref 211)), (de P "items" 621 (.ref 218)), (de P "__repr__" 628 (.ref 225)), (de P "__str__" 634 (.ref 230)), (de P "__bytes__" 641 (.ref 237)), (de P "setdefault" 651 (.ref 244)), (de P "add_header" 661 (.ref 251)), (de P "__static_attributes__" 663 (.ref 252)), (de P "__dict__" 665 (.ref 255)), (de P "__weakref__" 667 (.ref 256)), (de P "__doc__" 668 .none)]) 4) (ar []))
noncomputable def o254_G4 (P : Params) : Obj := (Obj.mk (.type "type") (none) (Data.cls (ClassData.mk (sq "Headers") [(.type "object")] [(.ref 254), (.type "object")] 253 (sq "Headers") true [] [] false (none) false)) (ar [(none), (none), (some (vs "Headers" 514)), (some (vs "Headers" 522)), (some (.builtin "object.__new__")), (some (.bool true))]))
noncomputable def o255_G4 (P : Params) : Obj := (Obj.mk (.type "getset_descriptor") (none) (Data.fields (ar [(vs "__dict__" 664), (.ref 254), (.builtin "function.__dict__"), (.builtin "function.__dict__#set")])) (ar []))
noncomputable def o256_G4 (P : Params) : Obj := (Obj.mk (.type "getset_descriptor") (none) (Data.fields (ar [(vs "__weakref__" 666), (.ref 254), (.builtin "ExceptionGroup.__weakref__"), .none])) (ar []))
noncomputable def o257_G4 (P : Params) : Obj := (Obj.mk (.type "super") (none) (Data.fields (ar [(.ref 254), (.ref 254), (.ref 254)])) (ar []))
noncomputable def o258_G4 (P : Params) : Obj := (Obj.mk (.type "builtin_function_or_method") (none) (Data.fields (ar [(.builtin "object.__init_subclass__"), (.ref 254)])) (ar []))
noncomputable def o3_G5 (P : Params) : Obj := (Obj.mk (.type "dict") (none) (Data.dict (ar [(de P "__name__" 165 (vs "law_pg0303_02" 671)), (de P "__doc__" 166 .none), (de P "__package__" 167 .none), (de P "__loader__" 168 (.builtin "__main__.__loader__#\x6fpaque")), (de P "__spec__" 169 .none), (de P "__annotations__" 170 (.ref 6)), (de P "__builtins__" 171 (.ref 4)), (de P "__file__" 173 (vs "/claim/cut.py" 172)), (de P "__cached__" 174 .none), (de P "_sre" 275 (.ref 12)), (de P "_wall" 288 (.ref 38)), (de P "Whitespace" 382 (.ref 100)), (de P "_twin_re_1" 400 (.ref 109)), (de P "_twin_re_2" 442 (.ref 114)), (de P "CRLF" 444 (Value.str (sq "\x0d\n") 443)), (de P "quotedata" 451 (.ref 121)), (de P "_name_disallowed_re" 479 (.ref 126)), (de P "_value_disallowed_re" 513 (.ref 131)), (de P "Headers" 670 (.ref 254)), (de P "_law_views" 678 (.ref 263)), (de P "_law_numbers" 684 (.ref 268)), (de P "_law_refined" 690 (.ref 273)), (de P "_law_rows" 696 (.ref 278)), (de P "_law_alike" 711 (.ref 285)), (de P "law" 717 (.ref 290))]) 25) (ar []))
noncomputable def o29_G5 (P : Params) : Obj := (Obj.mk .none (none) (Data.fields (ar [(.int (2 : Int) 0), (.int (0 : Int) 0), (.ref 37), (.int (6 : Int) 0), (.int (0 : Int) 0), (.ref 44), (.int (53 : Int) 0), (.int (0 : Int) 0), (.ref 120), (.int (58 : Int) 0), (.int (0 : Int) 0), (.ref 137), (.int (134 : Int) 0), (.int (0 : Int) 0), (.ref 262), (.int (140 : Int) 0), (.int (0 : Int) 0), (.ref 267), (.int (143 : Int) 0), (.int (0 : Int) 0), (.ref 272), (.int (153 : Int) 0), (.int (0 : Int) 0), (.ref 277), (.int (159 : Int) 0), (.int (0 : Int) 0), (.ref 284), (.int (169 : Int) 0), (.int (0 : Int) 0), (.ref 289)])) (ar []))
noncomputable def o259_G5 (P : Params) : Obj := (Obj.mk (.type "tuple") (none) (Data.seq (ar []) 0) (ar []))
noncomputable def o260_G5 (P : Params) : Obj := (Obj.mk .none (none) (Data.fields (ar [])) (ar []))
noncomputable def o261_G5 (P : Params) : Obj := (Obj.mk .none (none) (Data.func (FuncData.mk (sq "_law_views") (sq "_law_views") (dPa (dTo 14)) (.stmts (dBo (dTo 14))) (dSc (dTo 14)) 0 [] .none .none .none .none (none) .none .none 0)) (ar []))
noncomputable def o262_G5 (P : Params) : Obj := (Obj.mk (.type "code") (none) (Data.fields (ar [(vs "_law_views" 673), (vs "_law_views" 674), (vs "/claim/cut.py" 675), (.int (134 : Int) 0), (.int (2 : Int) 0), (.int (0 : Int) 0), (.int (0 : Int) 0), (.int (3 : Int) 0), (.ref 259), (.bool true), (.int (276 : Int) 0), (.ref 260), .none, .none, .none, (.ref 261), (.int (676 : Int) 0), (.int (134 : Int) 0), (vs "/claim/cut.py" 677)])) (ar []))
noncomputable def o263_G5 (P : Params) : Obj := (Obj.mk (.type "function") (none) (Data.func (FuncData.mk (sq "_law_views") (sq "_law_views") (dPa (dTo 14)) (.stmts (dBo (dTo 14))) (dSc (dTo 14)) 3 [] .none .none .none (vs "law_pg0303_02" 671) (none) (.ref 262) .none 0)) (ar []))
noncomputable def o264_G5 (P : Params) : Obj := (Obj.mk (.type "tuple") (none) (Data.seq (ar []) 0) (ar []))
noncomputable def o265_G5 (P : Params) : Obj := (Obj.mk .none (none) (Data.fields (ar [])) (ar []))
noncomputable def o266_G5 (P : Params) : Obj := (Obj.mk .none (none) (Data.func (FuncData.mk (sq "_law_numbers") (sq "_law_numbers") (dPa (dTo 15)) (.stmts (dBo (dTo 15))) (dSc (dTo 15)) 0 [] .none .none .none .none (none) .none .none 0)) (ar []))
noncomputable def o267_G5 (P : Params) : Obj := (Obj.mk (.type "code") (none) (Data.fields (ar [(vs "_law_numbers" 679), (vs "_law_numbers" 680), (vs "/claim/cut.py" 681), (.int (140 : Int) 0), (.int (1 : Int) 0), (.int (0 : Int) 0), (.int (0 : Int) 0), (.int (3 : Int) 0), (.ref 264), (.bool true), (.int (276 : Int) 0), (.ref 265), .none, .none, .none, (.ref 266), (.int (682 : Int) 0), (.int (140 : Int) 0), (vs "/claim/cut.py" 683)])) (ar []))
noncomputable def o268_G5 (P : Params) : Obj := (Obj.mk (.type "function") (none) (Data.func (FuncData.mk (sq "_law_numbers") (sq "_law_numbers") (dPa (dTo 15)) (.stmts (dBo (dTo 15))) (dSc (dTo 15)) 3 [] .none .none .none (vs "law_pg0303_02" 671) (none) (.ref 267) .none 0)) (ar []))
noncomputable def o269_G5 (P : Params) : Obj := (Obj.mk (.type "tuple") (none) (Data.seq (ar []) 0) (ar []))
noncomputable def o270_G5 (P : Params) : Obj := (Obj.mk .none (none) (Data.fields (ar [])) (ar []))
noncomputable def o271_G5 (P : Params) : Obj := (Obj.mk .none (none) (Data.func (FuncData.mk (sq "_law_refined") (sq "_law_refined") (dPa (dTo 16)) (.stmts (dBo (dTo 16))) (dSc (dTo 16)) 0 [] .none .none .none .none (none) .none .none 0)) (ar []))
noncomputable def o272_G5 (P : Params) : Obj := (Obj.mk (.type "code") (none) (Data.fields (ar [(vs "_law_refined" 685), (vs "_law_refined" 686), (vs "/claim/cut.py" 687), (.int (143 : Int) 0), (.int (2 : Int) 0), (.int (0 : Int) 0), (.int (0 : Int) 0), (.int (3 : Int) 0), (.ref 269), (.bool true), (.int (276 : Int) 0), (.ref 270), .none, .none, .none, (.ref 271), (.int (688 : Int) 0), (.int (143 : Int) 0), (vs "/claim/cut.py" 689)])) (ar []))
noncomputable def o273_G5 (P : Params) : Obj := (Obj.mk (.type "function") (none) (Data.func (FuncData.mk (sq "_law_refined") (sq "_law_refined") (dPa (dTo 16)) (.stmts (dBo (dTo 16))) (dSc (dTo 16)) 3 [] .none .none .none (vs "law_pg0303_02" 671) (none) (.ref 272) .none 0)) (ar []))
noncomputable def o274_G5 (P : Params) : Obj := (Obj.mk (.type "tuple") (none) (Data.seq (ar []) 0) (ar []))
noncomputable def o275_G5 (P : Params) : Obj := (Obj.mk .none (none) (Data.fields (ar [])) (ar []))
noncomputable def o276_G5 (P : Params) : Obj := (Obj.mk .none (none) (Data.func (FuncData.mk (sq "_law_rows") (sq "_law_rows") (dPa (dTo 17)) (.stmts (dBo (dTo 17))) (dSc (dTo 17)) 0 [] .none .none .none .none (none) .none .none 0)) (ar []))
noncomputable def o277_G5 (P : Params) : Obj := (Obj.mk (.type "code") (none) (Data.fields (ar [(vs "_law_rows" 691), (vs "_law_rows" 692), (vs "/claim/cut.py" 693), (.int (153 : Int) 0), (.int (5 : Int) 0), (.int (0 : Int) 0), (.int (0 : Int) 0), (.int (3 : Int) 0), (.ref 274), (.bool true), (.int (276 : Int) 0), (.ref 275), .none, .none, .none, (.ref 276), (.int (694 : Int) 0), (.int (153 : Int) 0), (vs "/claim/cut.py" 695)])) (ar []))
noncomputable def o278_G5 (P : Params) : Obj := (Obj.mk (.type "function") (none) (Data.func (FuncData.mk (sq "_law_rows") (sq "_law_rows") (dPa (dTo 17)) (.stmts (dBo (dTo 17))) (dSc (dTo 17)) 3 [] .none .none .none (vs "law_pg0303_02" 671) (none) (.ref 277) .none 0)) (ar []))
noncomputable def o279_G5 (P : Params) : Obj := (Obj.mk (.type "tuple") (none) (Data.seq (ar []) 0) (ar []))
noncomputable def o280_G5 (P : Params) : Obj := (Obj.mk .none (none) (Data.fields (ar [])) (ar []))
noncomputable def o281_G5 (P : Params) : Obj := (Obj.mk (.type "tuple") (none) (Data.seq (ar [(vs "letters" 700), (vs "ways" 701), (vs "one" 702), (vs "other" 703), (vs "depth" 704), (vs "a" 705), (vs "b" 706), (vs "c" 707), (vs "d" 708)]) 0) (ar []))
noncomputable def o282_G5 (P : Params) : Obj := (Obj.mk (.type "tuple") (none) (Data.seq (ar []) 0) (ar []))
noncomputable def o283_G5 (P : Params) : Obj := (Obj.mk .none (none) (Data.func (FuncData.mk (sq "_law_alike") (sq "_law_alike") (dPa (dTo 18)) (.stmts (dBo (dTo 18))) (dSc (dTo 18)) 0 [] .none .none .none .none (none) .none .none 0)) (ar []))
noncomputable def o284_G5 (P : Params) : Obj := (Obj.mk (.type "code") (none) (Data.fields (ar [(vs "_law_alike" 697), (vs "_law_alike" 698), (vs "/claim/cut.py" 699), (.int (159 : Int) 0), (.int (5 : Int) 0), (.int (0 : Int) 0), (.int (0 : Int) 0), (.int (3 : Int) 0), (.ref 279), (.bool true), (.int (276 : Int) 0), (.ref 280), .none, (.ref 281), (.ref 282), (.ref 283), (.int (709 : Int) 0), (.int (159 : Int) 0), (vs "/claim/cut.py" 710)])) (ar []))
noncomputable def o285_G5 (P : Params) : Obj := (Obj.mk (.type "function") (none) (Data.func (FuncData.mk (sq "_law_alike") (sq "_law_alike") (dPa (dTo 18)) (.stmts (dBo (dTo 18))) (dSc (dTo 18)) 3 [] .none .none .none (vs "law_pg0303_02" 671) (none) (.ref 284) .none 0)) (ar []))
noncomputable def o286_G5 (P : Params) : Obj := (Obj.mk (.type "tuple") (none) (Data.seq (ar []) 0) (ar []))
noncomputable def o287_G5 (P : Params) : Obj := (Obj.mk .none (none) (Data.fields (ar [])) (ar []))
noncomputable def o288_G5 (P : Params) : Obj := (Obj.mk .none (none) (Data.func (FuncData.mk (sq "law") (sq "law") (dPa (dTo 19)) (.stmts (dBo (dTo 19))) (dSc (dTo 19)) 0 [] .none .none .none .none (none) .none .none 0)) (ar []))
noncomputable def o289_G5 (P : Params) : Obj := (Obj.mk (.type "code") (none) (Data.fields (ar [(vs "law" 712), (vs "law" 713), (vs "/claim/cut.py" 714), (.int (169 : Int) 0), (.int (1 : Int) 0), (.int (0 : Int) 0), (.int (0 : Int) 0), (.int (3 : Int) 0), (.ref 286), (.bool true), (.int (276 : Int) 0), (.ref 287), .none, .none, .none, (.ref 288), (.int (715 : Int) 0), (.int (169 : Int) 0), (vs "/claim/cut.py" 716)])) (ar []))
noncomputable def o290_G5 (P : Params) : Obj := (Obj.mk (.type "function") (none) (Data.func (FuncData.mk (sq "law") (sq "law") (dPa (dTo 19)) (.stmts (dBo (dTo 19))) (dSc (dTo 19)) 3 [] .none .none .none (vs "law_pg0303_02" 671) (none) (.ref 289) .none 0)) (ar []))
abbrev nd := BT.node
abbrev nl := BT.nil
noncomputable def lifeT : Life := (Life.mk [] [] [] 0 [] [] Bool.false (List.toArray []) [] 0 Bool.false Bool.false Bool.false (0 : Int) [(2000 : Int), (10 : Int), (10 : Int)] Bool.false 0 Bool.true [] [] 0 Bool.false)
noncomputable def drT : Drawn := (Drawn.mk 0 0 0 0)
noncomputable def heapS0 (P : Params) : Heap := Heap.mk (Array.mk [o0_I1 P, o1_Se P, o2_Se P, o3_Se P, o4_I1 P, o5_I1 P, o6_I1 P, o7_I1 P, o8_I1 P, o9_I1 P, o10_I1 P, o11_S0 P, o12_I1 P, o13_I2 P, o14_I1 P, o15_I1 P, o16_I2 P, o17_I2 P, o18_Se P, o19_I2 P, o20_Se P, o21_Se P, o22_Se P, o23_Se P, o24_Se P, o25_Se P, o26_Se P, o27_Se P]) lifeT
noncomputable def heapSa (P : Params) : Heap := Heap.mk (Array.mk [o0_I1 P, o1_Se P, o2_Se P, o3_Se P, o4_I1 P, o5_I1 P, o6_I1 P, o7_I1 P, o8_I1 P, o9_I1 P, o10_I1 P, o11_S0 P, o12_I1 P, o13_I2 P, o14_I1 P, o15_I1 P, o16_I2 P, o17_I2 P, o18_Se P, o19_I2 P, o20_Se P, o21_Se P, o22_Se P, o23_Se P, o24_Se P, o25_Se P, o26_Se P, o27_Se P, o28_Sa P, o29_Sa P, o30_Sa P, o31_Sa P]) lifeT
noncomputable def heapSf (P : Params) : Heap := Heap.mk (Array.mk [o0_I1 P, o1_Se P, o2_Se P, o3_G5 P, o4_I1 P, o5_I1 P, o6_I1 P, o7_I1 P, o8_I1 P, o9_I1 P, o10_I1 P, o11_S0 P, o12_I1 P, o13_I2 P, o14_I1 P, o15_I1 P, o16_I2 P, o17_I2 P, o18_Se P, o19_I2 P, o20_Se P, o21_Se P, o22_Se P, o23_Se P, o24_Se P, o25_Se P, o26_Se P, o27_Se P, o28_Sa P, o29_G5 P, o30_Sa P, o31_Sa P, o32_G1 P, o33_G1 P, o34_G1 P, o35_G1 P, o36_G1 P, o37_G1 P, o38_G1 P, o39_G2 P, o40_G2 P, o41_G2 P, o42_G2 P, o43_G2 P, o44_G2 P, o45_G2 P, o46_G2 P, o47_G2 P, o48_G2 P, o49_G2 P, o50_G2 P, o51_G2 P, o52_G2 P, o53_G2 P, o54_G2 P, o55_G2 P, o56_G2 P, o57_G2 P, o58_G2 P, o59_G2 P, o60_G2 P, o61_G2 P, o62_G2 P, o63_G2 P, o64_G2 P, o65_G2 P, o66_G2 P, o67_G2 P, o68_G2 P, o69_G2 P, o70_G2 P, o71_G2 P, o72_G2 P, o73_G2 P, o74_G2 P, o75_G2 P, o76_G2 P, o77_G2 P, o78_G2 P, o79_G2 P, o80_G2 P, o81_G2 P, o82_G2 P, o83_G2 P, o84_G2 P, o85_G2 P, o86_G2 P, o87_G2 P, o88_G2 P, o89_G2 P, o90_G2 P, o91_G2 P, o92_G2 P, o93_G2 P, o94_G2 P, o95_G2 P, o96_G2 P, o97_G2 P, o98_G2 P, o99_G2 P, o100_G2 P, o101_G2 P, o102_G2 P, o103_G2 P, o104_G2 P, o105_G3 P, o106_G3 P, o107_G3 P, o108_G3 P, o109_G3 P, o110_G3 P, o111_G3 P, o112_G3 P, o113_G3 P, o114_G3 P, o115_G3 P, o116_G3 P, o117_G3 P, o118_G3 P, o119_G3 P, o120_G3 P, o121_G3 P, o122_G3 P, o123_G3 P, o124_G3 P, o125_G3 P, o126_G3 P, o127_G3 P, o128_G3 P, o129_G3 P, o130_G3 P, o131_G3 P, o132_G4 P, o133_G4 P, o134_G4 P, o135_G4 P, o136_G4 P, o137_G4 P, o138_G4 P, o139_G4 P, o140_G4 P, o141_G4 P, o142_G4 P, o143_G4 P, o144_G4 P, o145_G4 P, o146_G4 P, o147_G4 P, o148_G4 P, o149_G4 P, o150_G4 P, o151_G4 P, o152_G4 P, o153_G4 P, o154_G4 P, o155_G4 P, o156_G4 P, o157_G4 P, o158_G4 P, o159_G4 P, o160_G4 P, o161_G4 P, o162_G4 P, o163_G4 P, o164_G4 P, o165_G4 P, o166_G4 P, o167_G4 P, o168_G4 P, o169_G4 P, o170_G4 P, o171_G4 P, o172_G4 P, o173_G4 P, o174_G4 P, o175_G4 P, o176_G4 P, o177_G4 P, o178_G4 P, o179_G4 P, o180_G4 P, o181_G4 P, o182_G4 P, o183_G4 P, o184_G4 P, o185_G4 P, o186_G4 P, o187_G4 P, o188_G4 P, o189_G4 P, o190_G4 P, o191_G4 P, o192_G4 P, o193_G4 P, o194_G4 P, o195_G4 P, o196_G4 P, o197_G4 P, o198_G4 P, o199_G4 P, o200_G4 P, o201_G4 P, o202_G4 P, o203_G4 P, o204_G4 P, o205_G4 P, o206_G4 P, o207_G4 P, o208_G4 P, o209_G4 P, o210_G4 P, o211_G4 P, o212_G4 P, o213_G4 P, o214_G4 P, o215_G4 P, o216_G4 P, o217_G4 P, o218_G4 P, o219_G4 P, o220_G4 P, o221_G4 P, o222_G4 P, o223_G4 P, o224_G4 P, o225_G4 P, o226_G4 P, o227_G4 P, o228_G4 P, o229_G4 P, o230_G4 P, o231_G4 P, o232_G4 P, o233_G4 P, o234_G4 P, o235_G4 P, o236_G4 P, o237_G4 P, o238_G4 P, o239_G4 P, o240_G4 P, o241_G4 P, o242_G4 P, o243_G4 P, o244_G4 P, o245_G4 P, o246_G4 P, o247_G4 P, o248_G4 P, o249_G4 P, o250_G4 P, o251_G4 P, o252_G4 P, o253_G4 P, o254_G4 P, o255_G4 P, o256_G4 P, o257_G4 P, o258_G4 P, o259_G5 P, o260_G5 P, o261_G5 P, o262_G5 P, o263_G5 P, o264_G5 P, o265_G5 P, o266_G5 P, o267_G5 P, o268_G5 P, o269_G5 P, o270_G5 P, o271_G5 P, o272_G5 P, o273_G5 P, o274_G5 P, o275_G5 P, o276_G5 P, o277_G5 P, o278_G5 P, o279_G5 P, o280_G5 P, o281_G5 P, o282_G5 P, o283_G5 P, o284_G5 P, o285_G5 P, o286_G5 P, o287_G5 P, o288_G5 P, o289_G5 P, o290_G5 P]) lifeT
noncomputable def treeI1 (P : Params) : BT := (nd (o0_I1 P) (nd (o1_I1 P) (nd (o3_I1 P) (nd (o7_I1 P) (nd (o15_I1 P) nl nl) nl) (nd (o11_I1 P) nl nl)) (nd (o5_I1 P) (nd (o9_I1 P) nl nl) (nd (o13_I1 P) nl nl))) (nd (o2_I1 P) (nd (o4_I1 P) (nd (o8_I1 P) nl nl) (nd (o12_I1 P) nl nl)) (nd (o6_I1 P) (nd (o10_I1 P) nl nl) (nd (o14_I1 P) nl nl))))
noncomputable def treeI2 (P : Params) : BT := (nd (o0_I1 P) (nd (o1_I1 P) (nd (o3_I1 P) (nd (o7_I1 P) (nd (o15_I1 P) nl nl) nl) (nd (o11_I1 P) (nd (o19_I2 P) nl nl) nl)) (nd (o5_I1 P) (nd (o9_I1 P) (nd (o17_I2 P) nl nl) nl) (nd (o13_I2 P) nl nl))) (nd (o2_I2 P) (nd (o4_I1 P) (nd (o8_I1 P) (nd (o16_I2 P) nl nl) nl) (nd (o12_I1 P) nl nl)) (nd (o6_I1 P) (nd (o10_I1 P) (nd (o18_I2 P) nl nl) nl) (nd (o14_I1 P) nl nl))))
noncomputable def treeSe (P : Params) : BT := (nd (o0_I1 P) (nd (o1_Se P) (nd (o3_Se P) (nd (o7_I1 P) (nd (o15_I1 P) nl nl) (nd (o23_Se P) nl nl)) (nd (o11_Se P) (nd (o19_I2 P) nl nl) (nd (o27_Se P) nl nl))) (nd (o5_I1 P) (nd (o9_I1 P) (nd (o17_I2 P) nl nl) (nd (o25_Se P) nl nl)) (nd (o13_I2 P) (nd (o21_Se P) nl nl) nl))) (nd (o2_Se P) (nd (o4_I1 P) (nd (o8_I1 P) (nd (o16_I2 P) nl nl) (nd (o24_Se P) nl nl)) (nd (o12_I1 P) (nd (o20_Se P) nl nl) nl)) (nd (o6_I1 P) (nd (o10_I1 P) (nd (o18_Se P) nl nl) (nd (o26_Se P) nl nl)) (nd (o14_I1 P) (nd (o22_Se P) nl nl) nl))))
noncomputable def treeSb (P : Params) : BT := (nd (o0_I1 P) (nd (o1_Se P) (nd (o3_Se P) (nd (o7_I1 P) (nd (o15_I1 P) (nd (o31_Sa P) nl nl) nl) (nd (o23_Se P) nl nl)) (nd (o11_S0 P) (nd (o19_I2 P) nl nl) (nd (o27_Se P) nl nl))) (nd (o5_I1 P) (nd (o9_I1 P) (nd (o17_I2 P) nl nl) (nd (o25_Se P) nl nl)) (nd (o13_I2 P) (nd (o21_Se P) nl nl) (nd (o29_Sa P) nl nl)))) (nd (o2_Se P) (nd (o4_I1 P) (nd (o8_I1 P) (nd (o16_I2 P) nl nl) (nd (o24_Se P) nl nl)) (nd (o12_I1 P) (nd (o20_Se P) nl nl) (nd (o28_Sa P) nl nl))) (nd (o6_I1 P) (nd (o10_I1 P) (nd (o18_Se P) nl nl) (nd (o26_Se P) nl nl)) (nd (o14_I1 P) (nd (o22_Se P) nl nl) (nd (o30_Sa P) nl nl)))))
noncomputable def treeG1 (P : Params) : BT := (nd (o0_I1 P) (nd (o1_Se P) (nd (o3_G1 P) (nd (o7_I1 P) (nd (o15_I1 P) (nd (o31_Sa P) nl nl) nl) (nd (o23_Se P) nl nl)) (nd (o11_S0 P) (nd (o19_I2 P) (nd (o35_G1 P) nl nl) nl) (nd (o27_Se P) nl nl))) (nd (o5_I1 P) (nd (o9_I1 P) (nd (o17_I2 P) (nd (o33_G1 P) nl nl) nl) (nd (o25_Se P) nl nl)) (nd (o13_I2 P) (nd (o21_Se P) (nd (o37_G1 P) nl nl) nl) (nd (o29_G1 P) nl nl)))) (nd (o2_Se P) (nd (o4_I1 P) (nd (o8_I1 P) (nd (o16_I2 P) (nd (o32_G1 P) nl nl) nl) (nd (o24_Se P) nl nl)) (nd (o12_I1 P) (nd (o20_Se P) (nd (o36_G1 P) nl nl) nl) (nd (o28_Sa P) nl nl))) (nd (o6_I1 P) (nd (o10_I1 P) (nd (o18_Se P) (nd (o34_G1 P) nl nl) nl) (nd (o26_Se P) nl nl)) (nd (o14_I1 P) (nd (o22_Se P) (nd (o38_G1 P) nl nl) nl) (nd (o30_Sa P) nl nl)))))
noncomputable def treeG2 (P : Params) : BT := (nd (o0_I1 P) (nd (o1_Se P) (nd (o3_G2 P) (nd (o7_I1 P) (nd (o15_I1 P) (nd (o31_Sa P) (nd (o63_G2 P) nl nl) (nd (o95_G2 P) nl nl)) (nd (o47_G2 P) (nd (o79_G2 P) nl nl) nl)) (nd (o23_Se P) (nd (o39_G2 P) (nd (o71_G2 P) nl nl) (nd (o103_G2 P) nl nl)) (nd (o55_G2 P) (nd (o87_G2 P) nl nl) nl))) (nd (o11_S0 P) (nd (o19_I2 P) (nd (o35_G1 P) (nd (o67_G2 P) nl nl) (nd (o99_G2 P) nl nl)) (nd (o51_G2 P) (nd (o83_G2 P) nl nl) nl)) (nd (o27_Se P) (nd (o43_G2 P) (nd (o75_G2 P) nl nl) nl) (nd (o59_G2 P) (nd (o91_G2 P) nl nl) nl)))) (nd (o5_I1 P) (nd (o9_I1 P) (nd (o17_I2 P) (nd (o33_G1 P) (nd (o65_G2 P) nl nl) (nd (o97_G2 P) nl nl)) (nd (o49_G2 P) (nd (o81_G2 P) nl nl) nl)) (nd (o25_Se P) (nd (o41_G2 P) (nd (o73_G2 P) nl nl) nl) (nd (o57_G2 P) (nd (o89_G2 P) nl nl) nl))) (nd (o13_I2 P) (nd (o21_Se P) (nd (o37_G1 P) (nd (o69_G2 P) nl nl) (nd (o101_G2 P) nl nl)) (nd (o53_G2 P) (nd (o85_G2 P) nl nl) nl)) (nd (o29_G2 P) (nd (o45_G2 P) (nd (o77_G2 P) nl nl) nl) (nd (o61_G2 P) (nd (o93_G2 P) nl nl) nl))))) (nd (o2_Se P) (nd (o4_I1 P) (nd (o8_I1 P) (nd (o16_I2 P) (nd (o32_G1 P) (nd (o64_G2 P) nl nl) (nd (o96_G2 P) nl nl)) (nd (o48_G2 P) (nd (o80_G2 P) nl nl) nl)) (nd (o24_Se P) (nd (o40_G2 P) (nd (o72_G2 P) nl nl) (nd (o104_G2 P) nl nl)) (nd (o56_G2 P) (nd (o88_G2 P) nl nl) nl))) (nd (o12_I1 P) (nd (o20_Se P) (nd (o36_G1 P) (nd (o68_G2 P) nl nl) (nd (o100_G2 P) nl nl)) (nd (o52_G2 P) (nd (o84_G2 P) nl nl) nl)) (nd (o28_Sa P) (nd (o44_G2 P) (nd (o76_G2 P) nl nl) nl) (nd (o60_G2 P) (nd (o92_G2 P) nl nl) nl)))) (nd (o6_I1 P) (nd (o10_I1 P) (nd (o18_Se P) (nd (o34_G1 P) (nd (o66_G2 P) nl nl) (nd (o98_G2 P) nl nl)) (nd (o50_G2 P) (nd (o82_G2 P) nl nl) nl)) (nd (o26_Se P) (nd (o42_G2 P) (nd (o74_G2 P) nl nl) nl) (nd (o58_G2 P) (nd (o90_G2 P) nl nl) nl))) (nd (o14_I1 P) (nd (o22_Se P) (nd (o38_G1 P) (nd (o70_G2 P) nl nl) (nd (o102_G2 P) nl nl)) (nd (o54_G2 P) (nd (o86_G2 P) nl nl) nl)) (nd (o30_Sa P) (nd (o46_G2 P) (nd (o78_G2 P) nl nl) nl) (nd (o62_G2 P) (nd (o94_G2 P) nl nl) nl))))))
noncomputable def treeG3 (P : Params) : BT := (nd (o0_I1 P) (nd (o1_Se P) (nd (o3_G3 P) (nd (o7_I1 P) (nd (o15_I1 P) (nd (o31_Sa P) (nd (o63_G2 P) (nd (o127_G3 P) nl nl) nl) (nd (o95_G2 P) nl nl)) (nd (o47_G2 P) (nd (o79_G2 P) nl nl) (nd (o111_G3 P) nl nl))) (nd (o23_Se P) (nd (o39_G2 P) (nd (o71_G2 P) nl nl) (nd (o103_G2 P) nl nl)) (nd (o55_G2 P) (nd (o87_G2 P) nl nl) (nd (o119_G3 P) nl nl)))) (nd (o11_S0 P) (nd (o19_I2 P) (nd (o35_G1 P) (nd (o67_G2 P) (nd (o131_G3 P) nl nl) nl) (nd (o99_G2 P) nl nl)) (nd (o51_G2 P) (nd (o83_G2 P) nl nl) (nd (o115_G3 P) nl nl))) (nd (o27_Se P) (nd (o43_G2 P) (nd (o75_G2 P) nl nl) (nd (o107_G3 P) nl nl)) (nd (o59_G2 P) (nd (o91_G2 P) nl nl) (nd (o123_G3 P) nl nl))))) (nd (o5_I1 P) (nd (o9_I1 P) (nd (o17_I2 P) (nd (o33_G1 P) (nd (o65_G2 P) (nd (o129_G3 P) nl nl) nl) (nd (o97_G2 P) nl nl)) (nd (o49_G2 P) (nd (o81_G2 P) nl nl) (nd (o113_G3 P) nl nl))) (nd (o25_Se P) (nd (o41_G2 P) (nd (o73_G2 P) nl nl) (nd (o105_G3 P) nl nl)) (nd (o57_G2 P) (nd (o89_G2 P) nl nl) (nd (o121_G3 P) nl nl)))) (nd (o13_I2 P) (nd (o21_Se P) (nd (o37_G1 P) (nd (o69_G2 P) nl nl) (nd (o101_G2 P) nl nl)) (nd (o53_G2 P) (nd (o85_G2 P) nl nl) (nd (o117_G3 P) nl nl))) (nd (o29_G3 P) (nd (o45_G2 P) (nd (o77_G2 P) nl nl) (nd (o109_G3 P) nl nl)) (nd (o61_G2 P) (nd (o93_G2 P) nl nl) (nd (o125_G3 P) nl nl)))))) (nd (o2_Se P) (nd (o4_I1 P) (nd (o8_I1 P) (nd (o16_I2 P) (nd (o32_G1 P) (nd (o64_G2 P) (nd (o128_G3 P) nl nl) nl) (nd (o96_G2 P) nl nl)) (nd (o48_G2 P) (nd (o80_G2 P) nl nl) (nd (o112_G3 P) nl nl))) (nd (o24_Se P) (nd (o40_G2 P) (nd (o72_G2 P) nl nl) (nd (o104_G2 P) nl nl)) (nd (o56_G2 P) (nd (o88_G2 P) nl nl) (nd (o120_G3 P) nl nl)))) (nd (o12_I1 P) (nd (o20_Se P) (nd (o36_G1 P) (nd (o68_G2 P) nl nl) (nd (o100_G2 P) nl nl)) (nd (o52_G2 P) (nd (o84_G2 P) nl nl) (nd (o116_G3 P) nl nl))) (nd (o28_Sa P) (nd (o44_G2 P) (nd (o76_G2 P) nl nl) (nd (o108_G3 P) nl nl)) (nd (o60_G2 P) (nd (o92_G2 P) nl nl) (nd (o124_G3 P) nl nl))))) (nd (o6_I1 P) (nd (o10_I1 P) (nd (o18_Se P) (nd (o34_G1 P) (nd (o66_G2 P) (nd (o130_G3 P) nl nl) nl) (nd (o98_G2 P) nl nl)) (nd (o50_G2 P) (nd (o82_G2 P) nl nl) (nd (o114_G3 P) nl nl))) (nd (o26_Se P) (nd (o42_G2 P) (nd (o74_G2 P) nl nl) (nd (o106_G3 P) nl nl)) (nd (o58_G2 P) (nd (o90_G2 P) nl nl) (nd (o122_G3 P) nl nl)))) (nd (o14_I1 P) (nd (o22_Se P) (nd (o38_G1 P) (nd (o70_G2 P) nl nl) (nd (o102_G2 P) nl nl)) (nd (o54_G2 P) (nd (o86_G2 P) nl nl) (nd (o118_G3 P) nl nl))) (nd (o30_Sa P) (nd (o46_G2 P) (nd (o78_G2 P) nl nl) (nd (o110_G3 P) nl nl)) (nd (o62_G2 P) (nd (o94_G2 P) nl nl) (nd (o126_G3 P) nl nl)))))))
noncomputable def treeG4 (P : Params) : BT := (nd (o0_I1 P) (nd (o1_Se P) (nd (o3_G4 P) (nd (o7_I1 P) (nd (o15_I1 P) (nd (o31_Sa P) (nd (o63_G2 P) (nd (o127_G3 P) (nd (o255_G4 P) nl nl) nl) (nd (o191_G4 P) nl nl)) (nd (o95_G2 P) (nd (o159_G4 P) nl nl) (nd (o223_G4 P) nl nl))) (nd (o47_G2 P) (nd (o79_G2 P) (nd (o143_G4 P) nl nl) (nd (o207_G4 P) nl nl)) (nd (o111_G3 P) (nd (o175_G4 P) nl nl) (nd (o239_G4 P) nl nl)))) (nd (o23_Se P) (nd (o39_G2 P) (nd (o71_G2 P) (nd (o135_G4 P) nl nl) (nd (o199_G4 P) nl nl)) (nd (o103_G2 P) (nd (o167_G4 P) nl nl) (nd (o231_G4 P) nl nl))) (nd (o55_G2 P) (nd (o87_G2 P) (nd (o151_G4 P) nl nl) (nd (o215_G4 P) nl nl)) (nd (o119_G3 P) (nd (o183_G4 P) nl nl) (nd (o247_G4 P) nl nl))))) (nd (o11_S0 P) (nd (o19_I2 P) (nd (o35_G1 P) (nd (o67_G2 P) (nd (o131_G3 P) nl nl) (nd (o195_G4 P) nl nl)) (nd (o99_G2 P) (nd (o163_G4 P) nl nl) (nd (o227_G4 P) nl nl))) (nd (o51_G2 P) (nd (o83_G2 P) (nd (o147_G4 P) nl nl) (nd (o211_G4 P) nl nl)) (nd (o115_G3 P) (nd (o179_G4 P) nl nl) (nd (o243_G4 P) nl nl)))) (nd (o27_Se P) (nd (o43_G2 P) (nd (o75_G2 P) (nd (o139_G4 P) nl nl) (nd (o203_G4 P) nl nl)) (nd (o107_G3 P) (nd (o171_G4 P) nl nl) (nd (o235_G4 P) nl nl))) (nd (o59_G2 P) (nd (o91_G2 P) (nd (o155_G4 P) nl nl) (nd (o219_G4 P) nl nl)) (nd (o123_G3 P) (nd (o187_G4 P) nl nl) (nd (o251_G4 P) nl nl)))))) (nd (o5_I1 P) (nd (o9_I1 P) (nd (o17_I2 P) (nd (o33_G1 P) (nd (o65_G2 P) (nd (o129_G3 P) (nd (o257_G4 P) nl nl) nl) (nd (o193_G4 P) nl nl)) (nd (o97_G2 P) (nd (o161_G4 P) nl nl) (nd (o225_G4 P) nl nl))) (nd (o49_G2 P) (nd (o81_G2 P) (nd (o145_G4 P) nl nl) (nd (o209_G4 P) nl nl)) (nd (o113_G3 P) (nd (o177_G4 P) nl nl) (nd (o241_G4 P) nl nl)))) (nd (o25_Se P) (nd (o41_G2 P) (nd (o73_G2 P) (nd (o137_G4 P) nl nl) (nd (o201_G4 P) nl nl)) (nd (o105_G3 P) (nd (o169_G4 P) nl nl) (nd (o233_G4 P) nl nl))) (nd (o57_G2 P) (nd (o89_G2 P) (nd (o153_G4 P) nl nl) (nd (o217_G4 P) nl nl)) (nd (o121_G3 P) (nd (o185_G4 P) nl nl) (nd (o249_G4 P) nl nl))))) (nd (o13_I2 P) (nd (o21_Se P) (nd (o37_G1 P) (nd (o69_G2 P) (nd (o133_G4 P) nl nl) (nd (o197_G4 P) nl nl)) (nd (o101_G2 P) (nd (o165_G4 P) nl nl) (nd (o229_G4 P) nl nl))) (nd (o53_G2 P) (nd (o85_G2 P) (nd (o149_G4 P) nl nl) (nd (o213_G4 P) nl nl)) (nd (o117_G3 P) (nd (o181_G4 P) nl nl) (nd (o245_G4 P) nl nl)))) (nd (o29_G4 P) (nd (o45_G2 P) (nd (o77_G2 P) (nd (o141_G4 P) nl nl) (nd (o205_G4 P) nl nl)) (nd (o109_G3 P) (nd (o173_G4 P) nl nl) (nd (o237_G4 P) nl nl))) (nd (o61_G2 P) (nd (o93_G2 P) (nd (o157_G4 P) nl nl) (nd (o221_G4 P) nl nl)) (nd (o125_G3 P) (nd (o189_G4 P) nl nl) (nd (o253_G4 P) nl nl))))))) (nd (o2_Se P) (nd (o4_I1 P) (nd (o8_I1 P) (nd (o16_I2 P) (nd (o32_G1 P) (nd (o64_G2 P) (nd (o128_G3 P) (nd (o256_G4 P) nl nl) nl) (nd (o192_G4 P) nl nl)) (nd (o96_G2 P) (nd (o160_G4 P) nl nl) (nd (o224_G4 P) nl nl))) (nd (o48_G2 P) (nd (o80_G2 P) (nd (o144_G4 P) nl nl) (nd (o208_G4 P) nl nl)) (nd (o112_G3 P) (nd (o176_G4 P) nl nl) (nd (o240_G4 P) nl nl)))) (nd (o24_Se P) (nd (o40_G2 P) (nd (o72_G2 P) (nd (o136_G4 P) nl nl) (nd (o200_G4 P) nl nl)) (nd (o104_G2 P) (nd (o168_G4 P) nl nl) (nd (o232_G4 P) nl nl))) (nd (o56_G2 P) (nd (o88_G2 P) (nd (o152_G4 P) nl nl) (nd (o216_G4 P) nl nl)) (nd (o120_G3 P) (nd (o184_G4 P) nl nl) (nd (o248_G4 P) nl nl))))) (nd (o12_I1 P) (nd (o20_Se P) (nd (o36_G1 P) (nd (o68_G2 P) (nd (o132_G4 P) nl nl) (nd (o196_G4 P) nl nl)) (nd (o100_G2 P) (nd (o164_G4 P) nl nl) (nd (o228_G4 P) nl nl))) (nd (o52_G2 P) (nd (o84_G2 P) (nd (o148_G4 P) nl nl) (nd (o212_G4 P) nl nl)) (nd (o116_G3 P) (nd (o180_G4 P) nl nl) (nd (o244_G4 P) nl nl)))) (nd (o28_Sa P) (nd (o44_G2 P) (nd (o76_G2 P) (nd (o140_G4 P) nl nl) (nd (o204_G4 P) nl nl)) (nd (o108_G3 P) (nd (o172_G4 P) nl nl) (nd (o236_G4 P) nl nl))) (nd (o60_G2 P) (nd (o92_G2 P) (nd (o156_G4 P) nl nl) (nd (o220_G4 P) nl nl)) (nd (o124_G3 P) (nd (o188_G4 P) nl nl) (nd (o252_G4 P) nl nl)))))) (nd (o6_I1 P) (nd (o10_I1 P) (nd (o18_Se P) (nd (o34_G1 P) (nd (o66_G2 P) (nd (o130_G3 P) (nd (o258_G4 P) nl nl) nl) (nd (o194_G4 P) nl nl)) (nd (o98_G2 P) (nd (o162_G4 P) nl nl) (nd (o226_G4 P) nl nl))) (nd (o50_G2 P) (nd (o82_G2 P) (nd (o146_G4 P) nl nl) (nd (o210_G4 P) nl nl)) (nd (o114_G3 P) (nd (o178_G4 P) nl nl) (nd (o242_G4 P) nl nl)))) (nd (o26_Se P) (nd (o42_G2 P) (nd (o74_G2 P) (nd (o138_G4 P) nl nl) (nd (o202_G4 P) nl nl)) (nd (o106_G3 P) (nd (o170_G4 P) nl nl) (nd (o234_G4 P) nl nl))) (nd (o58_G2 P) (nd (o90_G2 P) (nd (o154_G4 P) nl nl) (nd (o218_G4 P) nl nl)) (nd (o122_G3 P) (nd (o186_G4 P) nl nl) (nd (o250_G4 P) nl nl))))) (nd (o14_I1 P) (nd (o22_Se P) (nd (o38_G1 P) (nd (o70_G2 P) (nd (o134_G4 P) nl nl) (nd (o198_G4 P) nl nl)) (nd (o102_G2 P) (nd (o166_G4 P) nl nl) (nd (o230_G4 P) nl nl))) (nd (o54_G2 P) (nd (o86_G2 P) (nd (o150_G4 P) nl nl) (nd (o214_G4 P) nl nl)) (nd (o118_G3 P) (nd (o182_G4 P) nl nl) (nd (o246_G4 P) nl nl)))) (nd (o30_Sa P) (nd (o46_G2 P) (nd (o78_G2 P) (nd (o142_G4 P) nl nl) (nd (o206_G4 P) nl nl)) (nd (o110_G3 P) (nd (o174_G4 P) nl nl) (nd (o238_G4 P) nl nl))) (nd (o62_G2 P) (nd (o94_G2 P) (nd (o158_G4 P) nl nl) (nd (o222_G4 P) nl nl)) (nd (o126_G3 P) (nd (o190_G4 P) nl nl) (nd (o254_G4 P) nl nl))))))))
noncomputable def treeG5 (P : Params) : BT := (nd (o0_I1 P) (nd (o1_Se P) (nd (o3_G5 P) (nd (o7_I1 P) (nd (o15_I1 P) (nd (o31_Sa P) (nd (o63_G2 P) (nd (o127_G3 P) (nd (o255_G4 P) nl nl) nl) (nd (o191_G4 P) nl nl)) (nd (o95_G2 P) (nd (o159_G4 P) (nd (o287_G5 P) nl nl) nl) (nd (o223_G4 P) nl nl))) (nd (o47_G2 P) (nd (o79_G2 P) (nd (o143_G4 P) (nd (o271_G5 P) nl nl) nl) (nd (o207_G4 P) nl nl)) (nd (o111_G3 P) (nd (o175_G4 P) nl nl) (nd (o239_G4 P) nl nl)))) (nd (o23_Se P) (nd (o39_G2 P) (nd (o71_G2 P) (nd (o135_G4 P) (nd (o263_G5 P) nl nl) nl) (nd (o199_G4 P) nl nl)) (nd (o103_G2 P) (nd (o167_G4 P) nl nl) (nd (o231_G4 P) nl nl))) (nd (o55_G2 P) (nd (o87_G2 P) (nd (o151_G4 P) (nd (o279_G5 P) nl nl) nl) (nd (o215_G4 P) nl nl)) (nd (o119_G3 P) (nd (o183_G4 P) nl nl) (nd (o247_G4 P) nl nl))))) (nd (o11_S0 P) (nd (o19_I2 P) (nd (o35_G1 P) (nd (o67_G2 P) (nd (o131_G3 P) (nd (o259_G5 P) nl nl) nl) (nd (o195_G4 P) nl nl)) (nd (o99_G2 P) (nd (o163_G4 P) nl nl) (nd (o227_G4 P) nl nl))) (nd (o51_G2 P) (nd (o83_G2 P) (nd (o147_G4 P) (nd (o275_G5 P) nl nl) nl) (nd (o211_G4 P) nl nl)) (nd (o115_G3 P) (nd (o179_G4 P) nl nl) (nd (o243_G4 P) nl nl)))) (nd (o27_Se P) (nd (o43_G2 P) (nd (o75_G2 P) (nd (o139_G4 P) (nd (o267_G5 P) nl nl) nl) (nd (o203_G4 P) nl nl)) (nd (o107_G3 P) (nd (o171_G4 P) nl nl) (nd (o235_G4 P) nl nl))) (nd (o59_G2 P) (nd (o91_G2 P) (nd (o155_G4 P) (nd (o283_G5 P) nl nl) nl) (nd (o219_G4 P) nl nl)) (nd (o123_G3 P) (nd (o187_G4 P) nl nl) (nd (o251_G4 P) nl nl)))))) (nd (o5_I1 P) (nd (o9_I1 P) (nd (o17_I2 P) (nd (o33_G1 P) (nd (o65_G2 P) (nd (o129_G3 P) (nd (o257_G4 P) nl nl) nl) (nd (o193_G4 P) nl nl)) (nd (o97_G2 P) (nd (o161_G4 P) (nd (o289_G5 P) nl nl) nl) (nd (o225_G4 P) nl nl))) (nd (o49_G2 P) (nd (o81_G2 P) (nd (o145_G4 P) (nd (o273_G5 P) nl nl) nl) (nd (o209_G4 P) nl nl)) (nd (o113_G3 P) (nd (o177_G4 P) nl nl) (nd (o241_G4 P) nl nl)))) (nd (o25_Se P) (nd (o41_G2 P) (nd (o73_G2 P) (nd (o137_G4 P) (nd (o265_G5 P) nl nl) nl) (nd (o201_G4 P) nl nl)) (nd (o105_G3 P) (nd (o169_G4 P) nl nl) (nd (o233_G4 P) nl nl))) (nd (o57_G2 P) (nd (o89_G2 P) (nd (o153_G4 P) (nd (o281_G5 P) nl nl) nl) (nd (o217_G4 P) nl nl)) (nd (o121_G3 P) (nd (o185_G4 P) nl nl) (nd (o249_G4 P) nl nl))))) (nd (o13_I2 P) (nd (o21_Se P) (nd (o37_G1 P) (nd (o69_G2 P) (nd (o133_G4 P) (nd (o261_G5 P) nl nl) nl) (nd (o197_G4 P) nl nl)) (nd (o101_G2 P) (nd (o165_G4 P) nl nl) (nd (o229_G4 P) nl nl))) (nd (o53_G2 P) (nd (o85_G2 P) (nd (o149_G4 P) (nd (o277_G5 P) nl nl) nl) (nd (o213_G4 P) nl nl)) (nd (o117_G3 P) (nd (o181_G4 P) nl nl) (nd (o245_G4 P) nl nl)))) (nd (o29_G5 P) (nd (o45_G2 P) (nd (o77_G2 P) (nd (o141_G4 P) (nd (o269_G5 P) nl nl) nl) (nd (o205_G4 P) nl nl)) (nd (o109_G3 P) (nd (o173_G4 P) nl nl) (nd (o237_G4 P) nl nl))) (nd (o61_G2 P) (nd (o93_G2 P) (nd (o157_G4 P) (nd (o285_G5 P) nl nl) nl) (nd (o221_G4 P) nl nl)) (nd (o125_G3 P) (nd (o189_G4 P) nl nl) (nd (o253_G4 P) nl nl))))))) (nd (o2_Se P) (nd (o4_I1 P) (nd (o8_I1 P) (nd (o16_I2 P) (nd (o32_G1 P) (nd (o64_G2 P) (nd (o128_G3 P) (nd (o256_G4 P) nl nl) nl) (nd (o192_G4 P) nl nl)) (nd (o96_G2 P) (nd (o160_G4 P) (nd (o288_G5 P) nl nl) nl) (nd (o224_G4 P) nl nl))) (nd (o48_G2 P) (nd (o80_G2 P) (nd (o144_G4 P) (nd (o272_G5 P) nl nl) nl) (nd (o208_G4 P) nl nl)) (nd (o112_G3 P) (nd (o176_G4 P) nl nl) (nd (o240_G4 P) nl nl)))) (nd (o24_Se P) (nd (o40_G2 P) (nd (o72_G2 P) (nd (o136_G4 P) (nd (o264_G5 P) nl nl) nl) (nd (o200_G4 P) nl nl)) (nd (o104_G2 P) (nd (o168_G4 P) nl nl) (nd (o232_G4 P) nl nl))) (nd (o56_G2 P) (nd (o88_G2 P) (nd (o152_G4 P) (nd (o280_G5 P) nl nl) nl) (nd (o216_G4 P) nl nl)) (nd (o120_G3 P) (nd (o184_G4 P) nl nl) (nd (o248_G4 P) nl nl))))) (nd (o12_I1 P) (nd (o20_Se P) (nd (o36_G1 P) (nd (o68_G2 P) (nd (o132_G4 P) (nd (o260_G5 P) nl nl) nl) (nd (o196_G4 P) nl nl)) (nd (o100_G2 P) (nd (o164_G4 P) nl nl) (nd (o228_G4 P) nl nl))) (nd (o52_G2 P) (nd (o84_G2 P) (nd (o148_G4 P) (nd (o276_G5 P) nl nl) nl) (nd (o212_G4 P) nl nl)) (nd (o116_G3 P) (nd (o180_G4 P) nl nl) (nd (o244_G4 P) nl nl)))) (nd (o28_Sa P) (nd (o44_G2 P) (nd (o76_G2 P) (nd (o140_G4 P) (nd (o268_G5 P) nl nl) nl) (nd (o204_G4 P) nl nl)) (nd (o108_G3 P) (nd (o172_G4 P) nl nl) (nd (o236_G4 P) nl nl))) (nd (o60_G2 P) (nd (o92_G2 P) (nd (o156_G4 P) (nd (o284_G5 P) nl nl) nl) (nd (o220_G4 P) nl nl)) (nd (o124_G3 P) (nd (o188_G4 P) nl nl) (nd (o252_G4 P) nl nl)))))) (nd (o6_I1 P) (nd (o10_I1 P) (nd (o18_Se P) (nd (o34_G1 P) (nd (o66_G2 P) (nd (o130_G3 P) (nd (o258_G4 P) nl nl) nl) (nd (o194_G4 P) nl nl)) (nd (o98_G2 P) (nd (o162_G4 P) (nd (o290_G5 P) nl nl) nl) (nd (o226_G4 P) nl nl))) (nd (o50_G2 P) (nd (o82_G2 P) (nd (o146_G4 P) (nd (o274_G5 P) nl nl) nl) (nd (o210_G4 P) nl nl)) (nd (o114_G3 P) (nd (o178_G4 P) nl nl) (nd (o242_G4 P) nl nl)))) (nd (o26_Se P) (nd (o42_G2 P) (nd (o74_G2 P) (nd (o138_G4 P) (nd (o266_G5 P) nl nl) nl) (nd (o202_G4 P) nl nl)) (nd (o106_G3 P) (nd (o170_G4 P) nl nl) (nd (o234_G4 P) nl nl))) (nd (o58_G2 P) (nd (o90_G2 P) (nd (o154_G4 P) (nd (o282_G5 P) nl nl) nl) (nd (o218_G4 P) nl nl)) (nd (o122_G3 P) (nd (o186_G4 P) nl nl) (nd (o250_G4 P) nl nl))))) (nd (o14_I1 P) (nd (o22_Se P) (nd (o38_G1 P) (nd (o70_G2 P) (nd (o134_G4 P) (nd (o262_G5 P) nl nl) nl) (nd (o198_G4 P) nl nl)) (nd (o102_G2 P) (nd (o166_G4 P) nl nl) (nd (o230_G4 P) nl nl))) (nd (o54_G2 P) (nd (o86_G2 P) (nd (o150_G4 P) (nd (o278_G5 P) nl nl) nl) (nd (o214_G4 P) nl nl)) (nd (o118_G3 P) (nd (o182_G4 P) nl nl) (nd (o246_G4 P) nl nl)))) (nd (o30_Sa P) (nd (o46_G2 P) (nd (o78_G2 P) (nd (o142_G4 P) (nd (o270_G5 P) nl nl) nl) (nd (o206_G4 P) nl nl)) (nd (o110_G3 P) (nd (o174_G4 P) nl nl) (nd (o238_G4 P) nl nl))) (nd (o62_G2 P) (nd (o94_G2 P) (nd (o158_G4 P) (nd (o286_G5 P) nl nl) nl) (nd (o222_G4 P) nl nl)) (nd (o126_G3 P) (nd (o190_G4 P) nl nl) (nd (o254_G4 P) nl nl))))))))
noncomputable def bodyT : List Stmt := behindTheImports PySem.Challenge.pw_pg0303_02
noncomputable def envT : Env := { scope := PySem.Challenge.pw_pg0303_02.main.scope, locals := mainNs, globals := mainNs, cells := [], code := (Value.ref 30), frame := some 31 }
noncomputable def codeT : Code := .body bodyT envT
abbrev annT : Option Value := (Option.some (Value.ref 6))
abbrev frT : List Frame := [topFrame (Pos.mk 0 0 0 0)]
noncomputable def sts1 : List Stmt := (bodyT.drop 0).take 2
noncomputable def sts2 : List Stmt := (bodyT.drop 2).take 1
noncomputable def sts3 : List Stmt := (bodyT.drop 3).take 8
noncomputable def sts4 : List Stmt := (bodyT.drop 11).take 1
noncomputable def sts5 : List Stmt := (bodyT.drop 12).take 7
theorem bodyT_eq : bodyT = sts1 ++ (sts2 ++ (sts3 ++ (sts4 ++ (sts5 ++ [])))) := by kernel_rfl
/-- the opening's run over a tree of objects -/
def impEndsT (tb : String → Option Builtin) (p : Program) (w : World) : Nat → SharedT → Thread → Option SharedT
  | 0, _, _ => none
  | n + 1, s, t => match t.atExitBegin with
    | some [] => some s
    | some (_ :: _) => none
    | none => match stepT (denote tb) p w s t with
      | some (s', t') => impEndsT tb p w n s' t'
      | none => none
theorem impEnds_of {tb : String → Option Builtin} {p : Program} {w : World} : ∀ {n : Nat} {s s' : SharedT} {t : Thread}, impEndsT tb p w n s t = some s' → importEnds tb p w n s.abs t = some s'.abs
  | 0, _, _, _, h => by cases h
  | n + 1, s, s', t, h => by
    unfold impEndsT at h
    unfold importEnds
    cases he : t.atExitBegin with
    | some x =>
      rw [he] at h
      cases x with
      | nil => cases h; rfl
      | cons => cases h
    | none =>
      rw [he] at h
      cases hs : stepT (denote tb) p w s t with
      | none => rw [hs] at h; cases h
      | some r => obtain ⟨s₂, t₂⟩ := r; rw [hs] at h; dsimp only; rw [stepT_spec hs]; exact impEnds_of h
set_option maxHeartbeats 0
noncomputable abbrev osT : OsState := (start (opening PySem.Challenge.pw_pg0303_02)).1.os
noncomputable def thrI1 (w : World) : Thread := ((impGoT treeTable (opening PySem.Challenge.pw_pg0303_02) w 480 (SharedT.mk .nil 0 lifeT #[] drT 1 osT) (start (opening PySem.Challenge.pw_pg0303_02)).2).map (·.2)).getD ⟨.unsupported "", .builtin "" {}, default, []⟩
theorem impI1 (w : World) : impGoT treeTable (opening PySem.Challenge.pw_pg0303_02) w 480 (SharedT.mk .nil 0 lifeT #[] drT 1 osT) (start (opening PySem.Challenge.pw_pg0303_02)).2 = some ((SharedT.mk (treeI1 w.params) 16 lifeT #[] drT 197 osT), thrI1 w) := by
  kernel_rfl
noncomputable def thrI2 (w : World) : Thread := ((impGoT treeTable (opening PySem.Challenge.pw_pg0303_02) w 40 (SharedT.mk (treeI1 w.params) 16 lifeT #[] drT 197 osT) (thrI1 w)).map (·.2)).getD ⟨.unsupported "", .builtin "" {}, default, []⟩
theorem impI2 (w : World) : impGoT treeTable (opening PySem.Challenge.pw_pg0303_02) w 40 (SharedT.mk (treeI1 w.params) 16 lifeT #[] drT 197 osT) (thrI1 w) = some ((SharedT.mk (treeI2 w.params) 20 lifeT #[] drT 208 osT), thrI2 w) := by
  kernel_rfl
theorem impSe (w : World) : impEndsT treeTable (opening PySem.Challenge.pw_pg0303_02) w 279 (SharedT.mk (treeI2 w.params) 20 lifeT #[] drT 208 osT) (thrI2 w) = some (SharedT.mk (treeSe w.params) 28 lifeT #[] drT 276 osT) := by
  kernel_rfl
theorem startT : (start (opening PySem.Challenge.pw_pg0303_02)).1 = SharedT.abs (SharedT.mk .nil 0 lifeT #[] drT 1 (start (opening PySem.Challenge.pw_pg0303_02)).1.os) := by kernel_rfl
theorem impT (w : World) : importEnds treeTable (opening PySem.Challenge.pw_pg0303_02) w 799 (start (opening PySem.Challenge.pw_pg0303_02)).1 (start (opening PySem.Challenge.pw_pg0303_02)).2 = some ⟨absHeap (treeSe w.params) 28 lifeT, #[], drT, 276, (start (opening PySem.Challenge.pw_pg0303_02)).1.os⟩ := by
  rw [startT]
  refine imp_go (n := 480) (N := 319) (impGo_of (impI1 w)) ?_
  refine imp_go (n := 40) (N := 279) (impGo_of (impI2 w)) ?_
  exact impEnds_of (impSe w)
theorem fenceT (w : World) : (fun os => (fenceModules? PySem.Challenge.pw_pg0303_02 ⟨absHeap (treeSe w.params) 28 lifeT, #[], drT, 276, os⟩).map (fun s => (s.heap, s.gens, s.drawn, s.toks))) = fun _ => some (heapS0 w.params, #[], drT, 276) := by
  kernel_rfl
theorem openT : ∀ w : World, (fencedOpening treeTable PySem.Challenge.pw_pg0303_02 w 3670).map (fun s => (s.heap, s.gens, s.drawn, s.toks)) = some (heapS0 w.params, #[], drT, 276) :=
  open_cut (M := 799) (He := fun P => absHeap (treeSe P) 28 lifeT) (H₀ := heapS0) impT (by decide) fenceT
theorem sizeT (w : World) : ((heapS0 w.params).isNs mainGlobals && (#[] : Array GenState).size == 0, (heapS0 w.params).objs.size, (heapS0 w.params).nsMap mainGlobals "__annotations__") = (true, 28, annT) := by
  kernel_rfl
theorem preT (w : World) (os : OsState) : topGo treeTable PySem.Challenge.pw_pg0303_02 w 28 annT 12 ⟨heapS0 w.params, #[], drT, 276, os⟩ (topStub PySem.Challenge.pw_pg0303_02) = some (⟨heapSa w.params, #[], drT, 282, os⟩, ⟨denote treeTable codeT, codeT, (Pos.mk 0 0 0 0), frT⟩) := by
  kernel_rfl
theorem blockT (w : World) (os : OsState) : segRun treeTable PySem.Challenge.pw_pg0303_02 w 28 annT 1 1 ⟨heapSa w.params, #[], drT, 282, os⟩ (blockOf bodyT envT codeT (Pos.mk 0 0 0 0) frT) = some (.next, (SharedT.abs (SharedT.mk (treeSb w.params) 32 lifeT #[] drT 282 os)), codeT, (Pos.mk 0 0 0 0)) := by
  kernel_rfl
abbrev Run1 (w : World) : Prop := ∀ os : OsState, segRunT treeTable PySem.Challenge.pw_pg0303_02 w 28 annT 1 39 (SharedT.mk (treeSb w.params) 32 lifeT #[] drT 282 os) (piecesOf sts1 envT codeT (Pos.mk 0 0 0 0) frT) = some (.next, (SharedT.mk (treeG1 w.params) 39 lifeT #[] drT 291 os), codeT, (Pos.mk 5 0 5 8))
theorem run1 (w : World) : Run1 w := by
  intro os; show _ = _
  kernel_rfl
abbrev Run2 (w : World) : Prop := ∀ os : OsState, segRunT treeTable PySem.Challenge.pw_pg0303_02 w 28 annT 1 485 (SharedT.mk (treeG1 w.params) 39 lifeT #[] drT 291 os) (piecesOf sts2 envT codeT (Pos.mk 5 0 5 8) frT) = some (.next, (SharedT.mk (treeG2 w.params) 105 lifeT #[] drT 383 os), codeT, (Pos.mk 6 0 48 16))
theorem run2F (w : World) : Run2 (w.withFollow "special-get-raises" false) := by
  intro os; show _ = _
  kernel_rfl
theorem run2T (w : World) : Run2 (w.withFollow "special-get-raises" true) := by
  intro os; show _ = _
  kernel_rfl
theorem run2 : ∀ w : World, Run2 w := byRow2 "special-get-raises" run2F run2T
abbrev Run3 (w : World) : Prop := ∀ os : OsState, segRunT treeTable PySem.Challenge.pw_pg0303_02 w 28 annT 1 347 (SharedT.mk (treeG2 w.params) 105 lifeT #[] drT 383 os) (piecesOf sts3 envT codeT (Pos.mk 6 0 48 16) frT) = some (.next, (SharedT.mk (treeG3 w.params) 132 lifeT #[] drT 514 os), codeT, (Pos.mk 57 0 57 20))
theorem run3 (w : World) : Run3 w := by
  intro os; show _ = _
  kernel_rfl
abbrev Run4 (w : World) : Prop := ∀ os : OsState, segRunT treeTable PySem.Challenge.pw_pg0303_02 w 28 annT 1 729 (SharedT.mk (treeG3 w.params) 132 lifeT #[] drT 514 os) (piecesOf sts4 envT codeT (Pos.mk 57 0 57 20) frT) = some (.next, (SharedT.mk (treeG4 w.params) 259 lifeT #[] drT 671 os), codeT, (Pos.mk 58 0 132 16))
theorem run4 (w : World) : Run4 w := by
  intro os; show _ = _
  kernel_rfl
abbrev Run5 (w : World) : Prop := ∀ os : OsState, segRunT treeTable PySem.Challenge.pw_pg0303_02 w 28 annT 1 177 (SharedT.mk (treeG4 w.params) 259 lifeT #[] drT 671 os) (piecesOf sts5 envT codeT (Pos.mk 58 0 132 16) frT) = some (.next, (SharedT.mk (treeG5 w.params) 291 lifeT #[] drT 718 os), codeT, (Pos.mk 169 0 184 29))
theorem run5 (w : World) : Run5 w := by
  intro os; show _ = _
  kernel_rfl
theorem finT (w : World) (os : OsState) : topRun treeTable PySem.Challenge.pw_pg0303_02 w 28 annT 2 (SharedT.abs (SharedT.mk (treeG5 w.params) 291 lifeT #[] drT 718 os)) ⟨doneF .next, codeT, (Pos.mk 169 0 184 29), frT⟩ = some ⟨heapSf w.params, #[], drT, 718, os⟩ := by
  kernel_rfl
theorem runT (w : World) (os : OsState) : topRun treeTable PySem.Challenge.pw_pg0303_02 w 28 annT 1792 ⟨heapS0 w.params, #[], drT, 276, os⟩ (topStub PySem.Challenge.pw_pg0303_02) = some ⟨heapSf w.params, #[], drT, 718, os⟩ := by
  refine go_top (n := 12) (N := 1780) (preT w os) ?_
  refine piece_block (n := 1) (N := 1779) (blockT w os) ?_
  rw [bodyT_eq]
  refine piece_app (n := 39) (N := 1740) (segRun_of (run1 w os)) ?_
  refine piece_app (n := 485) (N := 1255) (segRun_of (run2 w os)) ?_
  refine piece_app (n := 347) (N := 908) (segRun_of (run3 w os)) ?_
  refine piece_app (n := 729) (N := 179) (segRun_of (run4 w os)) ?_
  refine piece_app (n := 177) (N := 2) (segRun_of (run5 w os)) ?_
  exact piece_nil (finT w os)
theorem looksA (w : World) (os : OsState) : (staticsOk (importedModules PySem.Challenge.pw_pg0303_02.main.body) (heapS0 w.params) (heapSf w.params) && namesBound PySem.Challenge.pw_pg0303_02 (heapSf w.params) && gensDone (⟨heapSf w.params, #[], drT, 718, os⟩ : Shared) && laidKept (heapS0 w.params) (heapSf w.params)) = true := by
  kernel_rfl
theorem looksB (w : World) (os : OsState) : openSeen view1 loose1 (importedModules PySem.Challenge.pw_pg0303_02.main.body) (fun s => xlAt view1 [] s && recOk [] s) true (⟨heapSf w.params, #[], drT, 718, os⟩ : Shared) = openGood view1 loose1 := by
  kernel_rfl
theorem looksC (w : World) (os : OsState) : hook.obs (⟨heapSf w.params, #[], drT, 718, os⟩ : Shared) = hook.val w := by
  kernel_rfl
end M3.TT
namespace M3
open PySem PySem.W PyProof.Rows
theorem left1 : LeftO PySem.Challenge.pw_pg0303_02 view1 loose1 (fun s => xlAt view1 [] s && recOk [] s) hook.obs hook.val 3670 :=
  LeftO.of_pieces (H₀ := TT.heapS0) (H₁ := TT.heapSf) TT.openT TT.sizeT TT.runT (by decide) fun w => funext fun os => by rw [TT.looksA w os, TT.looksB w os, TT.looksC w os]
theorem said1 : PySem.Challenge.rw_pg0303_02.wellSaid = true := by kernel_rfl
theorem promised1 : PySem.Challenge.rw_pg0303_02.row.toRowW.promised := by w_witness2
end M3
end
-- part GN1c
section
set_option maxRecDepth 100000
namespace M3
open PySem PySem.W PyProof.Rows
noncomputable def lawDK : DefRec × List (Str × Expr) := (defOf view1 PySem.Challenge.rw_pg0303_02.row.name).getD (⟨Str.empty, default, [], default, default⟩, [])
theorem hdef1 : defOf view1 PySem.Challenge.rw_pg0303_02.row.name = some (lawDK.1, lawDK.2) := by kernel_rfl
theorem hp1 : PySem.Challenge.rw_pg0303_02.row.prog.theDef PySem.Challenge.rw_pg0303_02.row.name = some (lawDK.1.params, lawDK.1.body, lawDK.1.scope) := by kernel_rfl
theorem hk1 : kwWritten? lawDK.1.params.kwonlyargs lawDK.1.params.kw_defaults = some lawDK.2 := by kernel_rfl
theorem hwr1 : (!PySem.Challenge.rw_pg0303_02.row.writes || PySem.Challenge.rw_pg0303_02.row.records.isEmpty) = true := by kernel_rfl
theorem hok1 : (chainsOk view1 && opensWell PySem.Challenge.rw_pg0303_02.row.prog && (frees PySem.Challenge.rw_pg0303_02.row.toRowW && PySem.Challenge.rw_pg0303_02.row.within.isEmpty)) = true := by kernel_rfl
theorem hnm1 : lawDK.1.name = Str.ofString "law" := by kernel_rfl
theorem hb1 : PySem.Challenge.rw_pg0303_02.row.prog.bare := ⟨by kernel_rfl, by kernel_rfl, by kernel_rfl, by kernel_rfl, by kernel_rfl, by decide +kernel⟩
end M3
end
-- part GF2
section
set_option maxRecDepth 100000
namespace M3
open PySem PySem.Calls PySem.Spec PyProof.Rows PySem.W PySem.Builtin PySem.Builtin.Str
noncomputable abbrev GG (P : Program) (w : World) (P' : Program) (loose : List Str) (mg mb : Str → Option Value) : Gc := ⟨P, w, heapK w.params, P', loose, mg, mb, fun _ => True, fun _ _ _ _ => trivial⟩
section
variable {P : Program} {w' : World} {P' : Program} {loose : List Str} {mg mb : Str → Option Value} {n : Nat}
def rhoW (a : Addr) (x : Str) (w : WS) : Rho := [(q "self", .fz (.addr a)), (q "ws", .fz (.str x)), (q "T", .fz (.str (q "\t"))), (q "S", .fz (.str (q " "))), (q "count", .own (dI w.count)), (q "b", .fz (.int w.b)), (q "n", .fz (.int w.n)), (q "nt", .fz (.int w.nt))]
set_option maxHeartbeats 8000000 in
theorem fn_ws {x : Str} (hx : ∀ c ∈ x.cps.toList, c = 32 ∨ c = 9) (hlen : x.cps.toList.length ≤ 1000) :
    Cv (GG P w' P' loose mg mb) (n + 1) (.ref 100) [.str x] (.inst 100 [q "raw", q "n", q "nt", q "norm", q "is_simple"] [.str x, .int (wsRun x.cps.toList).n, .int (wsRun x.cps.toList).nt, .tup [.tup (dI (wsRun x.cps.toList).count), .int (wsRun x.cps.toList).b], .bool (decide (((wsRun x.cps.toList).count.length : Int) ≤ 1))]) := by
  refine Cv.make (f := 55) (ps := [q "ws"]) rfl rfl rfl ⟨⟨_, rfl, rfl⟩, rfl, rfl, rfl, rfl, rfl, rfl, rfl, rfl, rfl⟩ ?_ (by decide) rfl rfl fun a => ?_
  · intro v vs hv
    match vs, hv with
    | [u], _ => rfl
  refine ExS.set (Ev.name rfl rfl) rfl (by decide) (by decide) (fun env he => rfl) ?_
  refine ExS.ex (Ex1.swapped (d := .str (q " ")) (d' := .str (q "\t")) (by decide +kernel) (Ev.tuple (Evs.cons (Ev.clsAttr (C := 100) (mc := .type "type") ⟨by rfl, by rfl, .inl (by rfl)⟩ rfl (by rfl) rfl fun Z => ⟨_, rfl⟩) (Evs.cons (Ev.clsAttr (C := 100) (mc := .type "type") ⟨by rfl, by rfl, .inl (by rfl)⟩ rfl (by rfl) rfl fun Z => ⟨_, rfl⟩) Evs.nil fun _ => rfl) fun _ => rfl) (by decide)) (fun env he => rfl) (stores_at rfl)) (fun sl e => e) ?_
  refine ExS.ex (Ex1.assignL rfl (EvL.disp Evs.nil (by decide)) (fun env he => rfl)) (fun sl e => e) ?_
  refine ExS.ex (Ex1.assign3 rfl rfl rfl Ev.int_) (fun sl e => e) ?_
  refine ExS.forStr (tgs := [q "ch"]) (ρ' := rhoW a x (wsRun x.cps.toList)) rfl rfl ?_ ?_ (fun sl e => e) (fun env => rfl) ?_
  · rw [Array.all_eq_true']
    intro c hc
    rcases hx c (by simpa using hc) with rfl | rfl <;> rfl
  · refine ForTo.fold wsStep (fun c => .str ⟨#[c]⟩) (rhoW a x) WsOk (fun c => c = 32 ∨ c = 9) (N := 1000) (fun k w c hk ok hc => ⟨ok.step c, _, Tg.name rfl (by decide), ?_⟩) x.cps.toList 0 ⟨[], 0, 0, 0⟩ (by omega) WsOk.start hx
    rcases hc with rfl | rfl
    · refine Ex.post (ρ₁ := (rhoW a x (wsStep w 32)).set (q "ch") (.fz (.str ⟨#[32]⟩))) (Ex.cons (Ex1.if_ (b := true) (Tr.of (Tr.cmp (Ev.name rfl rfl) (Ev.name rfl rfl) Cmp.eq_str rfl) (by decide)) (Ex.cons (Ex1.assign rfl (Ev.bin (Ev.name rfl rfl) Ev.int_ Op2.add_int) (fun _ _ => rfl)) (Ex.cons (Ex1.assign rfl (Ev.bin (Ev.name rfl rfl) Ev.int_ Op2.add_int) (fun _ _ => rfl)) Ex.nil))) Ex.nil) (Rho.sub_set rfl)
    · have hb0 := ok.b0
      have hck := ok.ck
      have hbk := ok.bk
      have hlen' : (dI w.count).length = w.count.length := by simp [dI]
      have hmul : w.b - (w.count.length : Int) + 1 = ((w.b - (w.count.length : Int) + 1).toNat : Int) ∨ ¬ (w.count.length : Int) ≤ w.b := by omega
      by_cases hcb : (w.count.length : Int) ≤ w.b
      · have e9 : wsStep w 9 = ⟨(w.count ++ List.replicate (w.b - w.count.length + 1).toNat 0).set w.b.toNat ((w.count ++ List.replicate (w.b - w.count.length + 1).toNat 0).getD w.b.toNat 0 + 1), 0, w.n + 1, w.nt + 1⟩ := by
          unfold wsStep; rw [if_neg (by decide)]; dsimp only; rw [if_pos hcb]
        rw [e9]
        refine Ex.post (ρ₁ := (rhoW a x (⟨(w.count ++ List.replicate (w.b - w.count.length + 1).toNat 0).set w.b.toNat ((w.count ++ List.replicate (w.b - w.count.length + 1).toNat 0).getD w.b.toNat 0 + 1), 0, w.n + 1, w.nt + 1⟩)).set (q "ch") (.fz (.str ⟨#[9]⟩))) (Ex.cons (Ex1.if_ (b := false) (Tr.of (Tr.cmp (Ev.name rfl rfl) (Ev.name rfl rfl) Cmp.eq_str rfl) (by decide))
          (Ex.cons (Ex1.if_ (b := true) (Tr.of (Tr.cmp (Ev.name rfl rfl) (Ev.name rfl rfl) Cmp.eq_str rfl) (by decide)) ?_) Ex.nil)) Ex.nil) (Rho.sub_set rfl)
        refine Ex.cons (Ex1.assign rfl (Ev.bin (Ev.name rfl rfl) Ev.int_ Op2.add_int) (fun _ _ => rfl)) (Ex.cons (Ex1.assign rfl (Ev.bin (Ev.name rfl rfl) Ev.int_ Op2.add_int) (fun _ _ => rfl)) (Ex.cons (Ex1.if_ (b := true) (Tr.of (Tr.unown (x := q "count") (l := dI w.count) rfl (Tr.cmp (Ev.name rfl rfl) (Ev.call (v := .builtin "len") ⟨by rfl, by rfl, .inr ⟨by rfl, by rfl, by decide⟩⟩ Kpr.builtin (Evs.cons (Ev.name rfl rfl) Evs.nil (fun env => rfl)) rfl (Cv.len (by rw [hlen']; omega))) Cmp.ge_int rfl)) (by rw [hlen']; exact decide_eq_true hcb)) (Ex.cons (Ex1.assignL (l := dI (w.count ++ List.replicate (w.b - w.count.length + 1).toNat 0)) rfl (EvL.of (EvL.unown (x := q "count") (l := dI w.count) rfl (EvL.add (Ev.name rfl rfl) (EvL.ev (EvL.mul (EvL.ev (EvL.disp (Evs.cons Ev.int_ Evs.nil fun _ => rfl) (by decide))) (Ev.bin (Ev.bin (Ev.name rfl rfl) (Ev.call (v := .builtin "len") ⟨by rfl, by rfl, .inr ⟨by rfl, by rfl, by decide⟩⟩ Kpr.builtin (Evs.cons (Ev.name rfl rfl) Evs.nil (fun env => rfl)) rfl (Cv.len (by rw [hlen']; omega))) Op2.sub_int) Ev.int_ Op2.add_int) (by rw [hlen']; omega) (by rw [hlen']; omega) (by rw [hlen']; simp; omega))) (by rw [hlen']; simp; omega)) (by rw [rep_one, hlen', dI_append]; exact LFs_int _)) (by rw [rep_one, hlen', dI_append])) (fun _ _ => rfl)) Ex.nil)) ?_))
        have hlt : w.b.toNat < (w.count ++ List.replicate (w.b - w.count.length + 1).toNat 0).length := by simp; omega
        refine Ex.cons (Ex1.of (Ex1.setItem rfl rfl (Ev.bin (Ev.subOwn rfl rfl rfl (Ev.name rfl rfl) hb0 (by omega) (dI_getElem? _ _ hlt)) Ev.int_ Op2.add_int) (Ev.name rfl rfl) hb0 (by simp [dI]; omega) (by simp [dI]; omega) (fun _ => rfl)) (by rw [dI_set])) ?_
        exact Ex.cons (Ex1.assign rfl Ev.int_ (fun _ _ => rfl)) Ex.nil
      · have e9 : wsStep w 9 = ⟨w.count.set w.b.toNat (w.count.getD w.b.toNat 0 + 1), 0, w.n + 1, w.nt + 1⟩ := by
          unfold wsStep; rw [if_neg (by decide)]; dsimp only; rw [if_neg hcb]
        rw [e9]
        refine Ex.post (ρ₁ := (rhoW a x (⟨w.count.set w.b.toNat (w.count.getD w.b.toNat 0 + 1), 0, w.n + 1, w.nt + 1⟩)).set (q "ch") (.fz (.str ⟨#[9]⟩))) (Ex.cons (Ex1.if_ (b := false) (Tr.of (Tr.cmp (Ev.name rfl rfl) (Ev.name rfl rfl) Cmp.eq_str rfl) (by decide))
          (Ex.cons (Ex1.if_ (b := true) (Tr.of (Tr.cmp (Ev.name rfl rfl) (Ev.name rfl rfl) Cmp.eq_str rfl) (by decide)) ?_) Ex.nil)) Ex.nil) (Rho.sub_set rfl)
        refine Ex.cons (Ex1.assign rfl (Ev.bin (Ev.name rfl rfl) Ev.int_ Op2.add_int) (fun _ _ => rfl)) (Ex.cons (Ex1.assign rfl (Ev.bin (Ev.name rfl rfl) Ev.int_ Op2.add_int) (fun _ _ => rfl)) (Ex.cons (Ex1.if_ (b := false) (Tr.of (Tr.unown (x := q "count") (l := dI w.count) rfl (Tr.cmp (Ev.name rfl rfl) (Ev.call (v := .builtin "len") ⟨by rfl, by rfl, .inr ⟨by rfl, by rfl, by decide⟩⟩ Kpr.builtin (Evs.cons (Ev.name rfl rfl) Evs.nil (fun env => rfl)) rfl (Cv.len (by rw [hlen']; omega))) Cmp.ge_int rfl)) (by rw [hlen']; exact decide_eq_false hcb)) Ex.nil) ?_))
        have hlt : w.b.toNat < w.count.length := by omega
        refine Ex.cons (Ex1.of (Ex1.setItem rfl rfl (Ev.bin (Ev.subOwn rfl rfl rfl (Ev.name rfl rfl) hb0 (by omega) (dI_getElem? _ _ hlt)) Ev.int_ Op2.add_int) (Ev.name rfl rfl) hb0 (by simp [dI]; omega) (by simp [dI]; omega) (fun _ => rfl)) (by rw [dI_set])) ?_
        exact Ex.cons (Ex1.assign rfl Ev.int_ (fun _ _ => rfl)) Ex.nil
  refine ExS.set (Ev.name rfl rfl) rfl (by decide) (by decide) (fun env he => rfl) ?_
  refine ExS.set (Ev.name rfl rfl) rfl (by decide) (by decide) (fun env he => rfl) ?_
  refine ExS.set (Ev.unown (x := q "count") rfl (Ev.tuple (Evs.cons (Ev.call (v := .type "tuple") ⟨by rfl, by rfl, .inr ⟨by rfl, by rfl, by decide⟩⟩ Kpr.type (Evs.cons (Ev.name rfl rfl) Evs.nil (fun env => rfl)) rfl (Cv.tuple ?_)) (Evs.cons (Ev.name rfl rfl) Evs.nil fun _ => rfl) fun _ => rfl) (by simp)) ?_) rfl (by decide) (by decide) (fun env he => rfl) ?_
  · have := (WsOk.run x.cps.toList WsOk.start).ck
    simp [dI]; unfold wsRun; omega
  · simp [LF, LFs, LFs_int]
  refine ExS.set (Ev.unown (x := q "count") rfl (Ev.cmp (Ev.call (v := .builtin "len") ⟨by rfl, by rfl, .inr ⟨by rfl, by rfl, by decide⟩⟩ Kpr.builtin (Evs.cons (Ev.name rfl rfl) Evs.nil (fun env => rfl)) rfl (Cv.len ?_)) Ev.int_ Cmp.le_int rfl) rfl) rfl (by decide) (by decide) (fun env he => rfl) ?_
  · have := (WsOk.run x.cps.toList WsOk.start).ck
    simp [dI]; unfold wsRun; omega
  have e : (dI (wsRun x.cps.toList).count).length = (wsRun x.cps.toList).count.length := by simp [dI]
  rw [e]
  exact ExS.nil
end
end M3
end
-- part GF3
section
set_option maxRecDepth 100000
namespace M3
open PySem PySem.Calls PySem.Spec PyProof.Rows PySem.W PySem.Builtin PySem.Builtin.Str
theorem dI_append_one (l : List Int) (x : Int) : dI l ++ [D.int x] = dI (l ++ [x]) := by simp [dI]
/-- a Whitespace, by its raw text -/
def wsD (c : Addr) (x : Str) : D := .inst c [q "raw", q "n", q "nt", q "norm", q "is_simple"] [.str x, .int (wsRun x.cps.toList).n, .int (wsRun x.cps.toList).nt, .tup [.tup (dI (wsRun x.cps.toList).count), .int (wsRun x.cps.toList).b], .bool (decide (((wsRun x.cps.toList).count.length : Int) ≤ 1))]
/-- the piles that a count tells -/
def pilesOf (count : List Int) : List Int := (dn ((count.length : Int) - 1).toNat).flatMap fun j => List.replicate (count.getD j.toNat 0).toNat j
def turnedOf (piles : List Int) : List Int := sortRev ((piles.filter fun s => decide (1 < s)).map (fun s => s - 1) ++ [(piles.length : Int)])
section
variable {P : Program} {w' : World} {P' : Program} {loose : List Str} {mg mb : Str → Option Value} {n : Nat}
set_option maxHeartbeats 8000000 in
theorem fn_equal {x y : Str} : Fn (GG P w' P' loose mg mb) (n + 2) 76 [wsD 100 x, wsD 100 y] (.bool ((wsRun x.cps.toList).count == (wsRun y.cps.toList).count && (wsRun x.cps.toList).b == (wsRun y.cps.toList).b)) := by
  refine Fn.of (ns := [q "self", q "other"]) ⟨⟨_, rfl, rfl⟩, rfl, rfl, rfl, rfl, rfl, rfl, rfl, rfl, rfl⟩ ?_ (by decide) rfl rfl ?_
  · intro vs hv
    match vs, hv with
    | [v, u], _ => rfl
  refine Ex.leave (Ex1.ret (Ev.of (Ev.cmp (Ev.attr (Ev.name rfl rfl) rfl rfl (fun _ => rfl)) (Ev.attr (Ev.name rfl rfl) rfl rfl (fun _ => rfl)) (Cmp.eq_tup ?_ ?_) rfl) ?_))
  · simp [pks, pk, pks_int]
  · simp [deps, dep, deps_int]
  · simp only [pds, pd, PyData.eqvAll, PyData.eqv, eqv_int, Bool.and_true]
end
end M3
end
-- part GR9
section
set_option maxRecDepth 100000
namespace M3
open PySem PySem.Calls PySem.Spec PyProof.Rows PySem.W PySem.Builtin PySem.Builtin.Str PySem.Builtin.Re
def sOf (l : List Nat) : Str := ⟨l.toArray⟩
theorem sOf_eq {x : Str} {l : List Nat} (h : x.cps.toList = l) : x = sOf l := by
  obtain ⟨c⟩ := x
  subst h
  simp [sOf]
def joinL (sep : List Nat) : List (List Nat) → List Nat
  | [] => []
  | [r] => r
  | r :: r' :: rs => r ++ sep ++ joinL sep (r' :: rs)
theorem jn_eq : ∀ l, jn l = joinL [13, 10] l
  | [] => rfl
  | [r] => rfl
  | r :: r' :: rs => by rw [jn, joinL, jn_eq (r' :: rs)]; simp
theorem str_append (a b : Str) : (a ++ b).cps.toList = a.cps.toList ++ b.cps.toList := by
  show (a.cps ++ b.cps).toList = _
  simp
theorem Str_join (sep : Str) : ∀ l : List Str, (Str.join sep l).cps.toList = joinL sep.cps.toList (l.map fun s => s.cps.toList)
  | [] => rfl
  | [x] => rfl
  | x :: y :: l => by
    show (x ++ sep ++ Str.join sep (y :: l)).cps.toList = _
    rw [str_append, str_append, Str_join sep (y :: l)]; rfl
theorem Txt_join (sep : Str) (l : List Str) : Txt.join sep l = sOf (joinL sep.cps.toList (l.map fun s => s.cps.toList)) := by
  apply sOf_eq
  show (glued sep l).cps.toList = _
  rw [StrLaws.glued_eq_join, Str_join]
theorem joinL_nil : ∀ l : List (List Nat), joinL [] l = l.flatten
  | [] => rfl
  | [r] => by simp [joinL]
  | r :: r' :: rs => by rw [joinL, joinL_nil (r' :: rs)]; simp
theorem Txt_join_nil (l : List Str) : Txt.join ⟨#[]⟩ l = sOf (flat l) := by
  rw [Txt_join, show ((⟨#[]⟩ : Str).cps.toList) = [] from rfl, joinL_nil]
  simp [flat, List.flatMap]
theorem sum_len (l : List Str) : (l.map (·.length)).sum = (flat l).length := by
  induction l with
  | nil => rfl
  | cons a l ih => rw [List.map_cons, List.sum_cons, ih]; simp [flat, Str.length]
theorem sOf_len (l : List Nat) : (sOf l).length = l.length := by simp [sOf, Str.length]
section
variable {G : Gc} {n : Nat} {sc : Scope} {ρ : Rho}
theorem Ev.globStr {x y : Str} {pos : Pos} {t : Tok} (c : Callee G sc x (.str y t)) : Ev G n sc ρ (.Name x pos) (.str y) := by
  intro A env g Z s Q E rm he S hq
  exact c.eval S he (hq _ Z s (PStep.refl S.zin) ⟨_, rfl⟩)
end
section
variable {P : Program} {w' : World} {P' : Program} {loose : List Str} {mg mb : Str → Option Value} {n : Nat}
theorem re1 : PatK (GG P w' P' loose mg mb) 109 code1 := ⟨_, _, _, _, _, _, _, rfl, rfl, by decide +kernel⟩
theorem re2 : PatK (GG P w' P' loose mg mb) 114 code2 := ⟨_, _, _, _, _, _, _, rfl, rfl, by decide +kernel⟩
theorem re3 : PatK (GG P w' P' loose mg mb) 126 code3 := ⟨_, _, _, _, _, _, _, rfl, rfl, by decide +kernel⟩
theorem re4 : PatK (GG P w' P' loose mg mb) 131 code4 := ⟨_, _, _, _, _, _, _, rfl, rfl, by decide +kernel⟩
set_option maxHeartbeats 8000000 in
theorem fn_quote {rows : List (List Nat)} (ok : ∀ r ∈ rows, ∃ r', r = 46 :: r' ∧ ∀ c ∈ r', c ≠ 10 ∧ c ≠ 13) (hb : (jn rows).length ≤ 50000) (hb2 : (jn (rows.map (46 :: ·))).length ≤ 50000) (hr : rows.length ≤ 1000) :
    Fn (GG P w' P' loose mg mb) (n + 1) 121 [.str (sOf (jn rows))] (.str (sOf (jn (rows.map (46 :: ·))))) := by
  refine Fn.of (ns := [q "data"]) ⟨⟨_, rfl, rfl⟩, rfl, rfl, rfl, rfl, rfl, rfl, rfl, rfl, rfl⟩ ?_ (by decide) rfl rfl ?_
  · intro vs hv
    match vs, hv with
    | [v], _ => rfl
  obtain ⟨cuts, c1, c2, c3⟩ := cuts2 rows [] (jn rows) rfl fun r hr' c hc => by
    obtain ⟨r', rfl, h⟩ := ok r hr'
    rcases List.mem_cons.mp hc with rfl | hc
    · decide
    · exact h c hc
  obtain ⟨cuts', d1, d2, d3⟩ := cuts1 rows (fun r hr' => by obtain ⟨r', e, h⟩ := ok r hr'; exact ⟨r', e, fun c hc => (h c hc).1⟩) (by omega)
  refine Ex.leave (Ex1.ret (Ev.of (Ev.meth (b := .addr 109) (fun env => ⟨_, rfl⟩) (Ev.glob ⟨by rfl, by rfl, .inl (by rfl)⟩) (Mt.pat re1 slot_sub type_sub (Cv.sub (x := sOf (jn rows)) (y := ⟨#[46, 46]⟩) (cuts := cuts') re1 ?_ (by decide) (by decide +kernel) d1 ?_ ?_)) (Evs.cons Ev.str_ (Evs.cons (Ev.of (Ev.meth (b := .addr 114) (fun env => ⟨_, rfl⟩) (Ev.glob ⟨by rfl, by rfl, .inl (by rfl)⟩) (Mt.pat re2 slot_sub type_sub (Cv.sub (x := sOf (jn rows)) (y := ⟨#[13, 10]⟩) (cuts := cuts) re2 ?_ (by decide) (by decide +kernel) c1 ?_ ?_)) (Evs.cons (Ev.globStr ⟨by rfl, by rfl, .inl (by rfl)⟩) (Evs.cons (Ev.name rfl rfl) Evs.nil (fun _ => rfl)) (fun _ => rfl)) rfl) ?_) Evs.nil (fun _ => rfl)) (fun _ => rfl)) rfl) ?_))
  · simp [sOf]; omega
  · omega
  · rw [sum_len]
    show (flat (glueL (jn rows).toArray ⟨#[46, 46]⟩ 0 cuts')).length ≤ _
    rw [d3]; omega
  · simp [sOf]; omega
  · omega
  · rw [sum_len]
    show (flat (glueL (jn rows).toArray ⟨#[13, 10]⟩ 0 cuts)).length ≤ _
    have : flat (glueL (jn rows).toArray ⟨#[13, 10]⟩ 0 cuts) = jn rows := c3
    rw [this]; omega
  · rw [Txt_join_nil]
    exact congrArg (fun l => D.str (sOf l)) c3
  · rw [Txt_join_nil]
    exact congrArg (fun l => D.str (sOf l)) d3
end
end M3
end
-- part GF5
section
set_option maxRecDepth 100000
namespace M3
open PySem PySem.Calls PySem.Spec PyProof.Rows PySem.W PySem.Builtin PySem.Builtin.Str PySem.Builtin.Re
noncomputable abbrev GX (P : Program) (w : World) (P' : Program) (loose : List Str) (mg mb : Str → Option Value) (X : Zm → Prop) (Xm : ∀ Z Z', Zle Z Z' → X Z → X Z') : Gc := ⟨P, w, heapK w.params, P', loose, mg, mb, X, Xm⟩
/-- printable characters, none of which lower() turns -/
def okS (x : Str) : Bool := x.cps.toList.all fun c => decide (32 ≤ c) && lowOk c
section
variable {P : Program} {w' : World} {P' : Program} {loose : List Str} {mg mb : Str → Option Value} {X : Zm → Prop} {Xm : ∀ Z Z', Zle Z Z' → X Z → X Z'} {n : Nat}
theorem rx3 : PatK (GX P w' P' loose mg mb X Xm) 126 code3 := ⟨_, _, _, _, _, _, _, rfl, rfl, by decide +kernel⟩
theorem rx4 : PatK (GX P w' P' loose mg mb X Xm) 131 code4 := ⟨_, _, _, _, _, _, _, rfl, rfl, by decide +kernel⟩
theorem okS_at {x : Str} (h : okS x = true) : ∀ i, i < x.cps.size → 32 ≤ x.cps.getD i 0 ∧ x.cps.getD i 0 < 127 := by
  intro i hi
  have h1 : x.cps[i] ∈ x.cps.toList := by simp
  have h2 := List.all_eq_true.mp h _ h1
  have e : x.cps.getD i 0 = x.cps[i] := by simp [Array.getD, hi]
  rw [e]
  unfold lowOk at h2
  simp at h2
  omega
theorem okS_low {x : Str} (h : okS x = true) : ∀ c ∈ x.cps.toList, lowOk c = true := by
  intro c hc
  have h2 := List.all_eq_true.mp h _ hc
  simp at h2
  exact h2.2
set_option maxHeartbeats 8000000 in
theorem fn_conv {x : Str} {ds : D} {b : Bool} (hx : okS x = true) (hl : x.length ≤ 100000) : Cvk (GX P w' P' loose mg mb X Xm) (n + 2) (.ref 153) [ds, .str x] (q "name") (.bool b) (.str x) := by
  refine Cvk.of (ns := [q "self", q "value", q "name"]) ⟨⟨_, rfl, rfl⟩, rfl, rfl, rfl, rfl, rfl, rfl, rfl, rfl, rfl⟩ ?_ (by decide) rfl rfl ?_
  · intro vs kv hv
    match vs, hv with
    | [u, v], _ => rfl
  refine Ex.leave (Ex1.if_ (b := true) (Tr.typeIs (T := "str") ⟨by rfl, by rfl, .inr ⟨by rfl, by rfl, by decide⟩⟩ ⟨by rfl, by rfl, .inr ⟨by rfl, by rfl, by decide⟩⟩ (Ev.name rfl rfl) (fun Z s v _ _ hv => holds_str hv) rfl rfl (fun _ => rfl) (.inl ⟨rfl, rfl⟩) rfl rfl) ?_)
  have hs : ∀ code p, PatK (GX P w' P' loose mg mb X Xm) p code → (∃ m', Ends 8 (Sre.forSearch code x.cps 0 0 x.cps.size false) m' ∧ m'.outcome = some .failed) → Cv (GX P w' P' loose mg mb X Xm) (n + 1) (.builtin "re.Pattern.search") [.addr p, .str x] .none := by
    intro code p hp ⟨m', h1, h2⟩
    exact Cv.search hp (by show x.length < 1000000; omega) ⟨m', 8, by decide, h1, h2⟩
  cases b with
  | true =>
    refine Ex.cons (Ex1.assign (d := .addr 126) rfl (Ev.ifexp (b := true) (Tr.val (Ev.name rfl rfl) Truth.bool (fun _ _ => rfl)) (fun _ => Ev.glob ⟨by rfl, by rfl, .inl (by rfl)⟩) (fun h => by cases h)) (fun _ _ => rfl)) ?_
    refine Ex.cons (Ex1.if_ (b := false) (Tr.val (Ev.meth (b := .addr 126) (fun env => ⟨_, rfl⟩) (Ev.name rfl rfl) (Mt.pat rx3 slot_search type_search (hs _ _ rx3 (search3_none (okS_at hx)))) (Evs.cons (Ev.name rfl rfl) Evs.nil (fun _ => rfl)) rfl) Truth.none (fun _ _ => rfl)) Ex.nil) ?_
    exact Ex.leave (Ex1.ret (Ev.name rfl rfl))
  | false =>
    refine Ex.cons (Ex1.assign (d := .addr 131) rfl (Ev.ifexp (b := false) (Tr.val (Ev.name rfl rfl) Truth.bool (fun _ _ => rfl)) (fun h => by cases h) (fun _ => Ev.glob ⟨by rfl, by rfl, .inl (by rfl)⟩)) (fun _ _ => rfl)) ?_
    refine Ex.cons (Ex1.if_ (b := false) (Tr.val (Ev.meth (b := .addr 131) (fun env => ⟨_, rfl⟩) (Ev.name rfl rfl) (Mt.pat rx4 slot_search type_search (hs _ _ rx4 (search4_none (okS_at hx)))) (Evs.cons (Ev.name rfl rfl) Evs.nil (fun _ => rfl)) rfl) Truth.none (fun _ _ => rfl)) Ex.nil) ?_
    exact Ex.leave (Ex1.ret (Ev.name rfl rfl))
/-- the data of a Headers object whose list stands at a -/
def hD (a : Addr) : D := .inst 254 [q "_headers"] [.addr a]
def findH (l : List (Str × Str)) (x : Str) : Option Str := l.findSome? fun p => if p.1 == x then some p.2 else none
def getH (l : List (Str × Str)) (x : Str) : D := match findH l x with
  | none => .none
  | some y => .str y
theorem findH_str (l : List (Str × Str)) (x : Str) : (l.findSome? fun p => if p.1 == x then some (D.str p.2) else none) = (findH l x).map D.str := by
  unfold findH
  induction l with
  | nil => rfl
  | cons p r ih => rw [List.findSome?_cons, List.findSome?_cons, ih]; cases p.1 == x <;> rfl
set_option maxHeartbeats 8000000 in
theorem fn_get {x : Str} {a : Addr} {l : List (Str × Str)} (hx : okS x = true) (hl : x.length ≤ 100000) (hk : ∀ p ∈ l, okS p.1 = true ∧ p.1.length ≤ 100000) (hX : ∀ Z, X Z → Holds Z (.list (l.map hpair)) (.ref a)) : Fn (GX P w' P' loose mg mb X Xm) (n + 3) 201 [hD a, .str x] (getH l x) := by
  refine Fn.ofD (ns := [q "self", q "name", q "default"]) (xs := [.none]) (us := [.none]) ⟨⟨_, rfl, rfl⟩, rfl, rfl, rfl, rfl, rfl, rfl, rfl, rfl, rfl⟩ (fun Z => ⟨_, _, rfl, rfl, rfl⟩) ?_ (by decide) rfl rfl ?_
  · intro s vs K hv
    match vs, hv with
    | [u, v], _ => exact binds_K K rfl rfl rfl rfl rfl
  refine Ex.cons (Ex1.assign (d := .str x) rfl (Ev.methKw (b := hD a) (ds := [.str x]) (kd := .bool true) (fun env => ⟨_, rfl⟩) (Ev.name rfl rfl) (Mt.inst (f := 153) (by rfl) rfl rfl (Kpr.of_in rfl) (fn_conv hx hl)) (Evs.cons (Ev.meth (b := .str x) (fun env => ⟨_, rfl⟩) (Ev.name rfl rfl) (Mt.str PySem.F.plainAttrs_str PySem.F.slot_str_lower PySem.F.type_str_lower (Cv.lower (okS_low hx) (by omega))) Evs.nil rfl) Evs.nil (fun _ => rfl)) rfl (fun _ => rfl) Ev.bool_) (fun _ _ => rfl)) ?_
  have hg' := findH_str l x
  cases hg : findH l x with
  | none =>
    rw [hg] at hg'
    refine Ex.cons (Ex1.for_ (out := .nx ((rho0 [q "self", q "name", q "default"] ([hD a, .str x] ++ [.none])).set (Str.ofString "name") (.fz (.str x)))) (fun _ _ => rfl) (It.list rfl (Ev.asList hX (Ev.attr (Ev.name rfl rfl) rfl rfl (fun _ => rfl)))) (tgs := [q "k", q "v"]) ?_) (Ex.leave (Ex1.of (Ex1.ret (Ev.name rfl rfl)) (by unfold getH; rw [hg])))
    refine (congrArg (ForTo _ _ _ _ _ _ _ _) (by rw [hg'] ; rfl)).mp (ForTo.find (fun p : Str × Str => if p.1 == x then some (D.str p.2) else none) hpair l fun p hp => ⟨_, Tg.tup2 (.inl rfl) (by decide), ?_⟩)
    · obtain ⟨hp1, hp2⟩ := hk p hp
      by_cases h : (p.1 == x) = true
      · rw [if_pos h]
        exact Ex.leave (Ex1.if_ (b := true) (Tr.of (Tr.cmp (Ev.meth (b := .str p.1) (ds := []) (fun env => ⟨_, rfl⟩) (Ev.name rfl rfl) (Mt.str PySem.F.plainAttrs_str PySem.F.slot_str_lower PySem.F.type_str_lower (Cv.lower (okS_low hp1) (by omega))) Evs.nil rfl) (Ev.name rfl rfl) Cmp.eq_str rfl) h) (Ex.leave (Ex1.ret (Ev.name rfl rfl))))
      · rw [if_neg h]
        exact Ex.post (Ex.cons (Ex1.if_ (b := false) (Tr.of (Tr.cmp (Ev.meth (b := .str p.1) (ds := []) (fun env => ⟨_, rfl⟩) (Ev.name rfl rfl) (Mt.str PySem.F.plainAttrs_str PySem.F.slot_str_lower PySem.F.type_str_lower (Cv.lower (okS_low hp1) (by omega))) Evs.nil rfl) (Ev.name rfl rfl) Cmp.eq_str rfl) (by simpa using h)) Ex.nil) Ex.nil) (fun y t e => Rho.sub_set rfl y t (Rho.sub_set rfl y t e))
  | some y =>
    rw [hg] at hg'
    refine Ex.leave (Ex1.of (o := .ret (.str y)) (Ex1.for_ (out := .ret (.str y)) (fun _ _ => rfl) (It.list rfl (Ev.asList hX (Ev.attr (Ev.name rfl rfl) rfl rfl (fun _ => rfl)))) (tgs := [q "k", q "v"]) ?_) (by unfold getH; rw [hg])) (by unfold getH; rw [hg]; trivial)
    refine (congrArg (ForTo _ _ _ _ _ _ _ _) (by rw [hg'] ; rfl)).mp (ForTo.find (fun p : Str × Str => if p.1 == x then some (D.str p.2) else none) hpair l fun p hp => ⟨_, Tg.tup2 (.inl rfl) (by decide), ?_⟩)
    · obtain ⟨hp1, hp2⟩ := hk p hp
      by_cases h : (p.1 == x) = true
      · rw [if_pos h]
        exact Ex.leave (Ex1.if_ (b := true) (Tr.of (Tr.cmp (Ev.meth (b := .str p.1) (ds := []) (fun env => ⟨_, rfl⟩) (Ev.name rfl rfl) (Mt.str PySem.F.plainAttrs_str PySem.F.slot_str_lower PySem.F.type_str_lower (Cv.lower (okS_low hp1) (by omega))) Evs.nil rfl) (Ev.name rfl rfl) Cmp.eq_str rfl) h) (Ex.leave (Ex1.ret (Ev.name rfl rfl))))
      · rw [if_neg h]
        exact Ex.post (Ex.cons (Ex1.if_ (b := false) (Tr.of (Tr.cmp (Ev.meth (b := .str p.1) (ds := []) (fun env => ⟨_, rfl⟩) (Ev.name rfl rfl) (Mt.str PySem.F.plainAttrs_str PySem.F.slot_str_lower PySem.F.type_str_lower (Cv.lower (okS_low hp1) (by omega))) Evs.nil rfl) (Ev.name rfl rfl) Cmp.eq_str rfl) (by simpa using h)) Ex.nil) Ex.nil) (fun y t e => Rho.sub_set rfl y t (Rho.sub_set rfl y t e))
end
end M3
end
-- part GF6
section
set_option maxRecDepth 100000
namespace M3
open PySem PySem.Calls PySem.Spec PyProof.Rows PySem.W PySem.Builtin PySem.Builtin.Str PySem.Builtin.Re
theorem LFs_hpair : ∀ l : List (Str × Str), LFs (l.map hpair) = true
  | [] => rfl
  | p :: l => by
    rw [List.map_cons, LFs, LFs_hpair l]; rfl
/-- what setdefault gives back, and what it leaves -/
def setH (l : List (Str × Str)) (x y : Str) : Str × List (Str × Str) := match findH l x with
  | some z => (z, l)
  | none => (y, l ++ [(x, y)])
theorem VarAt.but {env : Env} {h h' : Heap} {a : Addr} {vs : Array Value} {x : Str} {v : Value} (y : VarAt env h x v) (hl : PL h a vs) (k : Heap.SameBut a h h') : VarAt env h' x v := by
  rcases y with ⟨e, m, hn, hm⟩ | ⟨e, c, hc, hv⟩
  · have hne := Ns.ne_list hn hl
    obtain ⟨o, es, ep, e1, r⟩ := id hn
    exact .inl ⟨e, m, ⟨o, es, ep, (k.2 _ hne).trans e1, r⟩, hm⟩
  · have hne := IsCell.ne_list hv hl
    obtain ⟨o, e1, r⟩ := id hv
    exact .inr ⟨e, c, hc, o, (k.2 _ hne).trans e1, r⟩
theorem VarAt.load {G : Gc} {env : Env} {s : Shared} {A : Around} {E : Value → Shared → Prop} {x : Str} {v : Value} {Q : Value → Shared → Prop} (ek : env.scope.kind = .function) (y : VarAt env s.heap x v) (hn : (x == ("__classdict__" : Str)) = false) (q : Q v s) : wpAny (model G.prog G.w) A (loadName env x) Q E s := by
  rcases y with ⟨a, m, hm, hx⟩ | ⟨a | a, c, hc, hx⟩
  · exact wpAny_loadName_local ek a hm hx q
  · exact wpAny_loadName_cell ek a hc hx q
  · exact wpAny_loadName_free ek a hc hx q hn
section
variable {P : Program} {w' : World} {P' : Program} {loose : List Str} {mg mb : Str → Option Value} {n : Nat}
/-- the world with a list frozen at a -/
noncomputable abbrev GL (P : Program) (w : World) (P' : Program) (loose : List Str) (mg mb : Str → Option Value) (a : Addr) (L : List D) : Gc := GX P w P' loose mg mb (fun Z => Holds Z (.list L) (.ref a)) (fun _ _ z q => Holds.mono z q)
theorem GL_Z0 {Z : Zm} {a : Addr} {L : List D} (h : (GG P w' P' loose mg mb).Z0 Z) (hX : Holds Z (.list L) (.ref a)) : (GL P w' P' loose mg mb a L).Z0 Z := by
  obtain ⟨⟨h₀, b, k⟩, _⟩ := h
  exact ⟨⟨h₀, ⟨b.k, b.t⟩, k⟩, hX⟩
set_option maxHeartbeats 8000000 in
theorem fn_setdefault {nm y : Str} {l : List (Str × Str)} (hx : okS nm = true) (hl : nm.length ≤ 100000) (hy : okS y = true) (hl2 : y.length ≤ 100000) (hk : ∀ p ∈ l, okS p.1 = true ∧ p.1.length ≤ 100000) (hlen : l.length ≤ 100000)
    {A : Around} {Z : Zm} {s : Shared} {x a : Addr} {vs : List Value} {v1 v2 : Value} {Q : Value → Shared → Prop} {E : Value → Shared → Prop} (rm : Room (n + 4) A) (z0 : (GG P w' P' loose mg mb).Z0 Z) (zin : Zin Z s.heap) (hi : InstZ Z 254 [q "_headers"] x [.ref a]) (hz : Z a = none)
    (hp : PL s.heap a vs.toArray) (hh : HoldsL Z (l.map hpair) vs) (h1 : Holds Z (.str nm) v1) (h2 : Holds Z (.str y) v2)
    (hq : ∀ w Z' s' vs', UStep (fun b => b = a) Z s Z' s' → Z' a = none → PL s'.heap a vs'.toArray → HoldsL Z' ((setH l nm y).2.map hpair) vs' → Holds Z' (.str (setH l nm y).1) w → Q w s') :
    wpAny (model P w') A (call (.ref 244) [.ref x, v1, v2]) Q E s := by
  obtain ⟨o, eo, hpl, k, hdat⟩ := id hp
  have zle := Zm.le_add (o := o) hz
  have hL : Holds (Z.add a o) (.list (l.map hpair)) (.ref a) := ⟨a, vs, rfl, ⟨o, Zm.add_self .., hpl, k, hdat⟩, HoldsL.mono zle hh⟩
  have Z0 : (GL P w' P' loose mg mb a (l.map hpair)).Z0 (Z.add a o) := GL_Z0 (z0.mono zle) hL
  have hself : Holds (Z.add a o) (hD a) (.ref x) := ⟨x, [.ref a], rfl, hi.mono zle, HoldsL.one rfl⟩
  have hvs : HoldsL (Z.add a o) [hD a, .str nm, .str y] [.ref x, v1, v2] := ⟨_, _, rfl, hself, _, _, rfl, Holds.mono zle h1, _, _, rfl, Holds.mono zle h2, rfl⟩
  have F : FnAt (GL P w' P' loose mg mb a (l.map hpair)) 244 _ _ := ⟨⟨_, rfl, rfl⟩, rfl, rfl, rfl, rfl, rfl, rfl, rfl, rfl, rfl⟩
  refine wpAny_call (enter (G := GL P w' P' loose mg mb a (l.map hpair)) (binds := [q "self", q "name", q "value"].zip [.ref x, v1, v2]) (ρ₀ := rho0 [q "self", q "name", q "value"] [hD a, .str nm, .str y]) F rm.depth Z0 (zin.add eo) (fun _ _ e => e) (BindsTo.of_eq rfl) (show [q "self", q "name", q "value"].Nodup by decide) rfl (fun _ => none) (fun x sl e => rho0_at hvs e) (fun _ _ => rfl) (fun _ _ _ e => nomatch e) (fun _ _ e => nomatch e) fun env s₁ hs hkp he S => ?_)
  have stp : ∀ {s' : Shared}, (∃ h' tk, s' = { s₁ with heap := h', toks := tk }) → ∃ h' tk, s' = { s with heap := h', toks := tk } := fun ⟨h2, t2, e⟩ => by
    obtain ⟨h3, t3, rfl⟩ := hs
    exact ⟨h2, t2, e⟩
  have fin : ∀ {Z' : Zm} {s' : Shared}, (∃ h' tk, s' = { s with heap := h', toks := tk }) → Done s.heap (Z.add a o) Z' s'.heap → PStep (Z.add a o) s Z' s' := fun h D => ⟨h, D.keep, D.zg, D.zin, D.zng⟩
  -- result = self.get(name)
  refine wpAny_execs_cons ((Ex1.assign (d := getH l nm) rfl (Ev.meth (b := hD a) (ds := [.str nm]) (fun env => ⟨_, rfl⟩) (Ev.name rfl rfl) (Mt.inst (f := 201) (by rfl) rfl rfl (Kpr.of_in rfl) (fn_get (n := n) hx hl hk (fun Z h => h))) (Evs.cons (Ev.name rfl rfl) Evs.nil (fun _ => rfl)) rfl) (fun _ _ => rfl)) (A.deeper env) env s.heap (Z.add a o) (Z.add a o) s₁ _ _ rm.call he S fun f Z1 s1 hs1 ho => ?_)
  obtain ⟨rfl, S1⟩ := ho
  cases hg : findH l nm with
  | some z =>
    have eg : getH l nm = .str z := by unfold getH; rw [hg]
    rw [eg] at S1
    refine (Ex.leave (Ex1.if_ (b := false) (Tr.of (Tr.cmp (Ev.name rfl rfl) Ev.none_ (Cmp.is_some rfl) rfl) rfl) (Ex.leave (Ex1.ret (d := .str z) (Ev.name rfl rfl))))) (A.deeper env) env s.heap (Z.add a o) Z1 s1 _ _ rm.call he S1 fun f Z2 s2 hs2 ho => ?_
    obtain ⟨w, rfl, hw, D⟩ := ho
    have st := (fin (by obtain ⟨h1, t1, rfl⟩ := hs1; obtain ⟨h2, t2, rfl⟩ := hs2; exact stp ⟨h2, t2, rfl⟩) D)
    have st' := st.unfreeze hz
    have e2 : setH l nm y = (z, l) := by unfold setH; rw [hg]
    refine hq w (Z2.del a) s2 vs st'.u (Zm.del_self ..) (IsList.keeps hp st'.keep) ?_ ?_
    · rw [e2]; exact HoldsL.mono st'.z hh
    · rw [e2]; exact hw
  | none =>
    have eg : getH l nm = .none := by unfold getH; rw [hg]
    rw [eg] at S1
    refine wpAny_execs_cons (wpAny_If ((Tr.of (Tr.cmp (Ev.name rfl rfl) Ev.none_ Cmp.is_none rfl) rfl : Tr (GL P w' P' loose mg mb a (l.map hpair)) (n + 3) _ _ _ true) (A.deeper env) env s.heap Z1 s1 _ _ rm.call he S1.sees fun Z2 s2 st2 => ?_))
    have S2 := S1.step st2
    refine wpAny_execs_cons (wpAny_Expr_any ?_ (inter_at rfl env he) (swaps_at rfl env he))
    refine methodCall_KW (pl := _) ((Ev.attr (c := 254) (ns := [q "_headers"]) (l := [.addr a]) (d := .addr a) (Ev.name rfl rfl) rfl rfl (fun _ => rfl) : Ev (GL P w' P' loose mg mb a (l.map hpair)) (n + 3) _ _ _ (.addr a)) (A.deeper env) env s.heap Z2 s2 _ _ rm.call he S2.sees fun v Z3 s3 st3 hv => ?_) rfl
    have ev : v = .ref a := hv
    subst ev
    have S3 := S2.step st3
    have p3 : PL s3.heap a vs.toArray := IsList.keeps hp S3.keep
    refine getMethod_builtin p3.list.typeIs PySem.F.plainAttrs_list slot_list_append PySem.F.type_list_append (fun b e => ?_) ?_
    · cases e
      obtain ⟨o', eo', p', _⟩ := p3
      exact ⟨o', eo', p'.d⟩
    refine callWith_pos (ds := [.tup [.str nm, .str y]]) S3.sees rm.call he Kpr.builtin rfl (Evs.cons (Ev.tuple (Evs.cons (Ev.methKw (b := hD a) (ds := [.str nm]) (kd := .bool true) (fun env => ⟨_, rfl⟩) (Ev.name rfl rfl) (Mt.inst (f := 153) (by rfl) rfl rfl (Kpr.of_in rfl) (fn_conv (n := n + 1) hx hl)) (Evs.cons (Ev.name rfl rfl) Evs.nil (fun _ => rfl)) rfl (fun _ => rfl) Ev.bool_) (Evs.cons (Ev.methKw (b := hD a) (ds := [.str y]) (kd := .bool false) (fun env => ⟨_, rfl⟩) (Ev.name rfl rfl) (Mt.inst (f := 153) (by rfl) rfl rfl (Kpr.of_in rfl) (fn_conv (n := n + 1) hy hl2)) (Evs.cons (Ev.name rfl rfl) Evs.nil (fun _ => rfl)) rfl (fun _ => rfl) Ev.bool_) Evs.nil (fun _ => rfl)) (fun _ => rfl)) (by simp)) Evs.nil (fun _ => rfl)) fun us Z4 s4 st4 hu => ?_
    obtain ⟨u, rfl, hud⟩ := one hu
    have S4 := S3.step st4
    have p4 : PL s4.heap a vs.toArray := IsList.keeps hp S4.keep
    obtain ⟨kk, ek⟩ := p4.isL
    have hvl : vs.length = l.length := by rw [hh.length]; simp
    refine append_at (hsz := by rw [List.size_toArray, hvl]; exact Nat.le_trans hlen (by decide)) ek fun h' hsb ek' => ?_
    obtain ⟨plm, V⟩ := S4.sees.vars
    obtain ⟨w, hw, hws⟩ := V.at_ (q "value") (.fz (.str y)) rfl
    refine wpAny_execs_cons (wpAny_Return_some (wpAny_Name (VarAt.load S4.sees.ek (hw.but p4 hsb) (by decide) ?_) (by decide)))
    have est : ∃ h2 tk, s4 = { s with heap := h2, toks := tk } := by
      obtain ⟨g1, t1, e1⟩ := hs1
      obtain ⟨g2, t2, e2⟩ := st2.st
      obtain ⟨g3, t3, e3⟩ := st3.st
      obtain ⟨g4, t4, e4⟩ := st4.st
      subst e1 e2 e3 e4
      exact stp ⟨g4, t4, rfl⟩
    have st : PStep (Z.add a o) s Z4 s4 := ⟨est, S4.keep, S4.zg, S4.sees.zin, S4.zng⟩
    have hlist := st.listAt hpl.c
    have st' := st.unfreeze hz
    have e2 : setH l nm y = (y, l ++ [(nm, y)]) := by unfold setH; rw [hg]
    obtain ⟨h4, t4, rfl⟩ := est
    refine hq w (Z4.del a) _ (vs ++ [u]) ⟨⟨h', _, rfl⟩, fun b ob nb e => (hsb.2 b nb).trans (st'.keep b ob e), st'.z, fun b ob e => ?_, fun b ob nb e nz => st'.zn b ob e nz⟩ (Zm.del_self ..) ?_ ?_ ?_
    · have hb : b ≠ a := fun r => by subst r; rw [Zm.del_self] at e; cases e
      exact (hsb.2 b hb).trans (st'.zin b ob e)
    · have := PL.of ek'
      rw [List.push_toArray] at this
      exact this
    · rw [e2]
      show HoldsL _ ((l ++ [(nm, y)]).map hpair) _
      rw [List.map_append]
      exact (HoldsL.mono st'.z hh).append (HoldsL.one (Holds.del (d := .tup [.str nm, .str y]) hlist rfl hud))
    · rw [e2]; exact hws.2
end
end M3
end
-- part GP3
section
namespace M3
open PySem PySem.Builtin PySem.Builtin.Str PySem.StrLaws
/-- where joined rows are cut -/
def cutsOf (w : Nat) : Nat → List (List Nat) → List Nat
  | _, [] => []
  | _, [_] => []
  | a, r :: r' :: rs => (a + r.length) :: cutsOf w (a + r.length + w) (r' :: rs)
theorem occ_skip (s sub : Str) (hi limit : Nat) (l' : List Nat) (st : Array Nat × Nat) : ∀ l : List Nat, (∀ i ∈ l, ¬ (st.snd ≤ i ∧ At s sub hi i)) → (forIn (l ++ l') st (occBody s sub hi limit)) = forIn l' st (occBody s sub hi limit)
  | [], _ => rfl
  | a :: l, h => by
    rw [List.cons_append, List.forIn_cons]
    have ha := h a List.mem_cons_self
    have : ¬ (((st.fst.size < limit ∧ st.snd ≤ a) ∧ a + sub.length ≤ hi) ∧ subAt s sub a = true) := fun q => ha ⟨q.1.1.2, q.1.2, q.2⟩
    unfold occBody
    rw [if_neg this]
    exact occ_skip s sub hi limit l' st l fun i hi' => h i (List.mem_cons_of_mem _ hi')
theorem subAt_list (x sub : Str) (i : Nat) : subAt x sub i = ((x.cps.toList.drop i).take sub.length == sub.cps.toList) := subAt_eq x sub i
theorem not_at {x sub : Str} {hi i c : Nat} {t : List Nat} (hs : sub.cps.toList = c :: t) (h : ∀ d, x.cps.toList[i]? = some d → d ≠ c) : ¬ At x sub hi i := by
  rintro ⟨h1, h2⟩
  rw [subAt_list, beq_iff_eq, hs] at h2
  have hl : sub.length = t.length + 1 := by
    have := congrArg List.length hs
    simpa [Str.length] using this
  have e : ((x.cps.toList.drop i).take sub.length)[0]? = some c := by rw [h2]; rfl
  rw [hl, List.getElem?_take_of_lt (by omega), List.getElem?_drop] at e
  exact h c (by simpa using e) rfl
theorem occ_join {x sub : Str} {c : Nat} {t : List Nat} (hs : sub.cps.toList = c :: t) : ∀ (rs : List (List Nat)) (r pre : List Nat) (found : Array Nat), x.cps.toList = pre ++ joinL sub.cps.toList (r :: rs) → (∀ d ∈ r, d ≠ c) → (∀ q ∈ rs, ∀ d ∈ q, d ≠ c) → found.size ≤ pre.length →
    (forIn (List.range' pre.length (x.length + 1 - pre.length)) (found, pre.length) (occBody x sub x.length (x.length + 1))).run.fst.toList = found.toList ++ cutsOf sub.length pre.length (r :: rs)
  | [], r, pre, found, hx, hr, hrs, hf => by
    have hn : x.length = pre.length + r.length := by
      have := congrArg List.length hx
      simpa [joinL, Str.length] using this
    have hl : 1 ≤ sub.length := by
      have := congrArg List.length hs
      simp [Str.length] at this ⊢; omega
    have := occ_skip x sub x.length (x.length + 1) [] (found, pre.length) (List.range' pre.length (x.length + 1 - pre.length)) (fun i hi' => by
      rintro ⟨_, q⟩
      rw [List.mem_range'] at hi'
      obtain ⟨k, hk, rfl⟩ := hi'
      refine not_at hs (fun d hd => ?_) q
      rw [hx, List.getElem?_append_right (by omega)] at hd
      exact hr d (List.mem_of_getElem? hd))
    rw [List.append_nil] at this
    rw [this]
    simp [cutsOf]
  | r' :: rs, r, pre, found, hx, hr, hrs, hf => by
    have hl : 1 ≤ sub.length := by
      have := congrArg List.length hs
      simp [Str.length] at this ⊢; omega
    have hw : sub.cps.toList.length = sub.length := by simp [Str.length]
    have hx' : x.cps.toList = pre ++ r ++ sub.cps.toList ++ joinL sub.cps.toList (r' :: rs) := by
      rw [hx, joinL]; simp
    have hn : x.length = pre.length + r.length + sub.length + (joinL sub.cps.toList (r' :: rs)).length := by
      have := congrArg List.length hx'
      simpa [Str.length, Nat.add_assoc] using this
    have hat : At x sub x.length (pre.length + r.length) := by
      refine ⟨by omega, ?_⟩
      rw [subAt_list, hx', beq_iff_eq, List.append_assoc, List.append_assoc, ← List.append_assoc pre r, List.drop_append_of_le_length (by simp), List.drop_eq_nil_of_le (by simp)]
      rw [List.nil_append, List.take_append_of_le_length (by omega), List.take_of_length_le (by omega)]
    have split : List.range' pre.length (x.length + 1 - pre.length) = List.range' pre.length r.length ++ ((pre.length + r.length) :: (List.range' (pre.length + r.length + 1) (sub.length - 1) ++ List.range' (pre.length + r.length + sub.length) (x.length + 1 - (pre.length + r.length + sub.length)))) := by
      rw [show x.length + 1 - pre.length = r.length + (1 + ((sub.length - 1) + (x.length + 1 - (pre.length + r.length + sub.length)))) by omega, ← List.range'_append_1, ← List.range'_append_1, ← List.range'_append_1]
      simp only [Nat.add_assoc]
      rw [show List.range' (pre.length + r.length) 1 = [pre.length + r.length] from rfl]
      simp only [List.singleton_append]
      rw [show r.length + (1 + (sub.length - 1)) = r.length + sub.length by omega]
    rw [split]
    rw [occ_skip x sub x.length (x.length + 1) _ (found, pre.length) (List.range' pre.length r.length) (fun i hi' => by
      rintro ⟨_, q⟩
      rw [List.mem_range'] at hi'
      obtain ⟨k, hk, rfl⟩ := hi'
      refine not_at hs (fun d hd => ?_) q
      rw [hx', List.append_assoc, List.append_assoc, List.getElem?_append_right (by omega), List.getElem?_append_left (by omega)] at hd
      exact hr d (List.mem_of_getElem? hd))]
    rw [List.forIn_cons]
    have hyes : (((found, pre.length).fst.size < x.length + 1 ∧ (found, pre.length).snd ≤ pre.length + r.length) ∧ pre.length + r.length + sub.length ≤ x.length) ∧ subAt x sub (pre.length + r.length) = true := ⟨⟨⟨by show found.size < _; omega, by show pre.length ≤ _; omega⟩, hat.1⟩, hat.2⟩
    have hb : occBody x sub x.length (x.length + 1) (pre.length + r.length) (found, pre.length) = pure (ForInStep.yield (found.push (pre.length + r.length), pre.length + r.length + sub.length)) := by
      unfold occBody; rw [if_pos hyes]
    rw [hb, pure_bind]
    dsimp only
    rw [occ_skip x sub x.length (x.length + 1) _ _ (List.range' (pre.length + r.length + 1) (sub.length - 1)) (fun i hi' => by
      rintro ⟨q, _⟩
      rw [List.mem_range'] at hi'
      obtain ⟨k, hk, rfl⟩ := hi'
      have : pre.length + r.length + sub.length ≤ pre.length + r.length + 1 + 1 * k := q
      omega)]
    have hp : (pre ++ r ++ sub.cps.toList).length = pre.length + r.length + sub.length := by simp [Str.length]; omega
    have ih := occ_join hs rs r' (pre ++ r ++ sub.cps.toList) (found.push (pre.length + r.length)) hx' (hrs r' List.mem_cons_self) (fun q hq => hrs q (List.mem_cons_of_mem _ hq)) (by rw [hp, Array.size_push]; omega)
    rw [hp] at ih
    rw [ih, cutsOf]
    simp
theorem strSub_mid {x : Str} {pre r suf : List Nat} (hx : x.cps.toList = pre ++ r ++ suf) : strSub x pre.length (pre.length + r.length) = sOf r := by
  apply sOf_eq
  rw [strSub_toList, hx, List.append_assoc, List.drop_append_of_le_length (Nat.le_refl _), List.drop_eq_nil_of_le (Nat.le_refl _), List.nil_append, show pre.length + r.length - pre.length = r.length by omega, List.take_append_of_le_length (Nat.le_refl _), List.take_of_length_le (Nat.le_refl _)]
theorem partsFrom_join {x sub : Str} : ∀ (rs : List (List Nat)) (r pre : List Nat), x.cps.toList = pre ++ joinL sub.cps.toList (r :: rs) → partsFrom x sub.length pre.length (cutsOf sub.length pre.length (r :: rs)) = (r :: rs).map sOf
  | [], r, pre, hx => by
    have hx' : x.cps.toList = pre ++ r ++ [] := by simpa [joinL] using hx
    have hn : x.length = pre.length + r.length := by
      have := congrArg List.length hx'
      simpa [Str.length] using this
    show [strSub x pre.length x.length] = _
    rw [hn, strSub_mid hx']; rfl
  | r' :: rs, r, pre, hx => by
    have hx' : x.cps.toList = (pre ++ r ++ sub.cps.toList) ++ joinL sub.cps.toList (r' :: rs) := by rw [hx, joinL]; simp
    have hp : (pre ++ r ++ sub.cps.toList).length = pre.length + r.length + sub.length := by simp [Str.length]; omega
    have ih := partsFrom_join rs r' (pre ++ r ++ sub.cps.toList) hx'
    rw [hp] at ih
    rw [cutsOf, partsFrom, ih, strSub_mid (suf := sub.cps.toList ++ joinL sub.cps.toList (r' :: rs)) (by rw [hx']; simp)]
    rfl
theorem occ_rows {sub : Str} {c : Nat} {t : List Nat} (hs : sub.cps.toList = c :: t) {rows : List (List Nat)} (hne : rows ≠ []) (hr : ∀ q ∈ rows, ∀ d ∈ q, d ≠ c) :
    partsBetween (sOf (joinL sub.cps.toList rows)) (occurrences (sOf (joinL sub.cps.toList rows)) sub 0 (sOf (joinL sub.cps.toList rows)).length ((sOf (joinL sub.cps.toList rows)).length + 1)) sub.length = rows.map sOf ∧
    (occurrences (sOf (joinL sub.cps.toList rows)) sub 0 (sOf (joinL sub.cps.toList rows)).length ((sOf (joinL sub.cps.toList rows)).length + 1)) = cutsOf sub.length 0 rows := by
  obtain ⟨r, rs, rfl⟩ : ∃ r rs, rows = r :: rs := by
    cases rows with
    | nil => exact absurd rfl hne
    | cons r rs => exact ⟨r, rs, rfl⟩
  have hx : (sOf (joinL sub.cps.toList (r :: rs))).cps.toList = [] ++ joinL sub.cps.toList (r :: rs) := rfl
  have e := occ_join hs rs r [] #[] hx (hr r List.mem_cons_self) (fun q hq => hr q (List.mem_cons_of_mem _ hq)) (Nat.le_refl _)
  rw [occ_eq]
  rw [show (#[] : Array Nat).toList ++ cutsOf sub.length [].length (r :: rs) = cutsOf sub.length 0 (r :: rs) from rfl] at e
  have e' : (forIn (List.range' 0 ((sOf (joinL sub.cps.toList (r :: rs))).length + 1 - 0)) (#[], 0) (occBody (sOf (joinL sub.cps.toList (r :: rs))) sub (sOf (joinL sub.cps.toList (r :: rs))).length ((sOf (joinL sub.cps.toList (r :: rs))).length + 1))).run.fst.toList = cutsOf sub.length 0 (r :: rs) := e
  rw [e', partsBetween_eq]
  exact ⟨partsFrom_join rs r [] hx, rfl⟩
theorem cutsOf_nil {w a : Nat} : ∀ {rows : List (List Nat)}, rows ≠ [] → (cutsOf w a rows).isEmpty = true → ∃ r, rows = [r]
  | [], h, _ => absurd rfl h
  | [r], _, _ => ⟨r, rfl⟩
  | r :: r' :: rs, _, h => by simp [cutsOf] at h
theorem replace_rows {sub z : Str} {c : Nat} {t : List Nat} (hs : sub.cps.toList = c :: t) {rows : List (List Nat)} (hne : rows ≠ []) (hr : ∀ q ∈ rows, ∀ d ∈ q, d ≠ c) :
    Txt.replace (sOf (joinL sub.cps.toList rows)) sub z = sOf (joinL z.cps.toList rows) := by
  obtain ⟨h1, h2⟩ := occ_rows hs hne hr
  have hl : (sub.length == 0) = false := by
    have := congrArg List.length hs
    simp [Str.length] at this ⊢; intro h; rw [h] at this; simp at this
  unfold Txt.replace
  rw [hl, Bool.false_and, Bool.or_false]
  split
  · rename_i he
    rw [h2] at he
    obtain ⟨r, rfl⟩ := cutsOf_nil hne he
    rfl
  · rw [h1, glued_eq_join]
    apply sOf_eq
    rw [Str_join]
    congr 1
    rw [List.map_map]
    exact (List.map_congr_left fun r _ => rfl).trans (List.map_id _)
theorem split_rows {sub : Str} {c : Nat} {t : List Nat} (hs : sub.cps.toList = c :: t) (hk : PySem.Builtin.Str.strKind sub = 1) {rows : List (List Nat)} (hne : rows ≠ []) (hr : ∀ q ∈ rows, ∀ d ∈ q, d ≠ c) :
    Txt.split (sOf (joinL sub.cps.toList rows)) sub = rows.map sOf := by
  obtain ⟨h1, h2⟩ := occ_rows hs hne hr
  have one : (cutsOf sub.length 0 rows).isEmpty = true → [sOf (joinL sub.cps.toList rows)] = rows.map sOf := fun he => by
    obtain ⟨r, rfl⟩ := cutsOf_nil hne he
    rfl
  unfold Txt.split
  rw [h2] at h1 ⊢
  split
  · rename_i h
    refine one ?_
    rw [Bool.or_eq_true] at h
    rcases h with h | h
    · have h := of_decide_eq_true h
      match rows, hne with
      | [r], _ => rfl
      | r :: r' :: rs, _ =>
        exfalso
        rw [sOf_len, joinL] at h
        simp [Str.length] at h
        omega
    · rw [hk] at h
      have : 1 ≤ PySem.Builtin.Str.strKind (sOf (joinL sub.cps.toList rows)) := by
        unfold PySem.Builtin.Str.strKind; split
        · exact Nat.le_refl _
        · split <;> decide
      exact absurd (of_decide_eq_true h) (by omega)
  · split
    · rename_i he; exact one he
    · exact h1
/-- a row of dots, a row of blanks -/
def dots (p : Nat) : Str := sOf (List.replicate p 46)
theorem joinL_one (c : Nat) : ∀ p : Nat, joinL [c] (List.replicate (p + 1) []) = List.replicate p c
  | 0 => rfl
  | p + 1 => by
    rw [List.replicate_succ, List.replicate_succ, joinL, ← List.replicate_succ, joinL_one c p, List.replicate_succ]
    rfl
theorem replace_dots (p : Nat) : Txt.replace (dots p) (q ".") (q " ") = sOf (List.replicate p 32) := by
  have h := replace_rows (sub := q ".") (z := q " ") (c := 46) (t := []) rfl (rows := List.replicate (p + 1) []) (by simp) (by simp)
  rw [show (q ".").cps.toList = [46] from rfl, show (q " ").cps.toList = [32] from rfl, joinL_one, joinL_one] at h
  exact h
end M3
end
-- part GP4
section
namespace M3
open PySem PySem.Builtin PySem.Builtin.Str PySem.StrLaws
/-- a lead: each row's blanks and a tab -/
def leadL (ps : List Nat) : List Nat := ps.flatMap fun p => List.replicate p 32 ++ [9]
def bump (count : List Int) (p : Nat) : List Int :=
  let c := if count.length ≤ p then count ++ List.replicate (p - count.length + 1) 0 else count
  c.set p (c.getD p 0 + 1)
def cnt (ps : List Nat) : List Int := ps.foldl bump []
theorem ws_blanks : ∀ (p : Nat) (w : WS), (List.replicate p 32).foldl wsStep w = { w with b := w.b + p, n := w.n + p }
  | 0, w => by simp
  | p + 1, w => by
    rw [List.replicate_succ, List.foldl_cons, ws_blanks p]
    unfold wsStep
    rw [if_pos rfl]
    simp only [WS.mk.injEq, true_and]
    refine ⟨by omega, by omega, trivial⟩
theorem ws_row (count : List Int) (n nt : Int) (p : Nat) : (List.replicate p 32 ++ [9]).foldl wsStep ⟨count, 0, n, nt⟩ = ⟨bump count p, 0, n + p + 1, nt + 1⟩ := by
  rw [List.foldl_append, ws_blanks]
  show wsStep _ 9 = _
  unfold wsStep
  rw [if_neg (by decide)]
  dsimp only
  rw [Int.zero_add]
  unfold bump
  have e : ((p : Int) - (count.length : Int) + 1).toNat = p - count.length + 1 ∨ ¬ count.length ≤ p := by omega
  by_cases h : count.length ≤ p
  · have h' : (count.length : Int) ≤ (p : Int) := by omega
    have e' := e.resolve_right (fun q => q h)
    simp only [h, h', if_true, e', Int.toNat_natCast]
  · have h' : ¬ (count.length : Int) ≤ (p : Int) := by omega
    simp only [h, h', if_false, Int.toNat_natCast]
theorem ws_rows : ∀ (ps : List Nat) (count : List Int) (n nt : Int), (leadL ps).foldl wsStep ⟨count, 0, n, nt⟩ = ⟨ps.foldl bump count, 0, n + (leadL ps).length, nt + ps.length⟩
  | [], count, n, nt => by simp [leadL]
  | p :: ps, count, n, nt => by
    have e : leadL (p :: ps) = (List.replicate p 32 ++ [9]) ++ leadL ps := by simp [leadL]
    rw [e, List.foldl_append, ws_row, ws_rows ps]
    simp only [List.foldl_cons, List.length_cons, List.length_append, List.length_replicate, List.length_nil, WS.mk.injEq, true_and]
    exact ⟨by omega, by omega⟩
theorem wsRun_lead (ps : List Nat) : wsRun (leadL ps) = ⟨cnt ps, 0, ((leadL ps).length : Int), (ps.length : Int)⟩ := by
  unfold wsRun
  rw [ws_rows ps [] 0 0]
  simp [cnt]
theorem lead_mem {ps : List Nat} {c : Nat} (h : c ∈ leadL ps) : c = 32 ∨ c = 9 := by
  unfold leadL at h
  rw [List.mem_flatMap] at h
  obtain ⟨p, _, h⟩ := h
  rw [List.mem_append] at h
  rcases h with h | h
  · exact .inl (List.eq_of_mem_replicate h)
  · simp at h; exact .inr h
/-- few rows, none long -/
structure Few (ps : List Nat) : Prop where
  l : ps.length ≤ 30
  p : ∀ p ∈ ps, p ≤ 30
theorem lead_len : ∀ {ps : List Nat}, (∀ p ∈ ps, p ≤ 30) → (leadL ps).length ≤ 31 * ps.length
  | [], _ => by simp [leadL]
  | p :: ps, h => by
    have e : leadL (p :: ps) = (List.replicate p 32 ++ [9]) ++ leadL ps := by simp [leadL]
    have := lead_len (ps := ps) fun q hq => h q (List.mem_cons_of_mem _ hq)
    have := h p List.mem_cons_self
    rw [e]; simp; omega
theorem bump_ok {count : List Int} {p k : Nat} (hp : p ≤ 30) (hl : count.length ≤ 31) (hc : ∀ c ∈ count, 0 ≤ c ∧ c ≤ (k : Int)) : (bump count p).length ≤ 31 ∧ ∀ c ∈ bump count p, 0 ≤ c ∧ c ≤ ((k + 1 : Nat) : Int) := by
  have key : ∀ c : List Int, c.length ≤ 31 → (∀ x ∈ c, 0 ≤ x ∧ x ≤ (k : Int)) → (c.set p (c.getD p 0 + 1)).length ≤ 31 ∧ ∀ x ∈ c.set p (c.getD p 0 + 1), 0 ≤ x ∧ x ≤ ((k + 1 : Nat) : Int) := by
    intro c h1 h2
    refine ⟨by rw [List.length_set]; exact h1, fun x hx => ?_⟩
    have hg : 0 ≤ c.getD p 0 ∧ c.getD p 0 ≤ (k : Int) := by
      rw [List.getD_eq_getElem?_getD]
      cases hq : c[p]? with
      | none => simp
      | some y => simpa using h2 y (List.mem_of_getElem? hq)
    rcases List.mem_or_eq_of_mem_set hx with h | h
    · have := h2 x h; omega
    · omega
  unfold bump
  dsimp only
  split
  · rename_i h
    refine key _ ?_ ?_
    · simp; omega
    · intro x hx
      rw [List.mem_append] at hx
      rcases hx with hx | hx
      · exact hc x hx
      · have := List.eq_of_mem_replicate hx; omega
  · exact key _ hl hc
theorem cnt_ok' : ∀ (ps : List Nat) (count : List Int) (k : Nat), (∀ p ∈ ps, p ≤ 30) → count.length ≤ 31 → (∀ c ∈ count, 0 ≤ c ∧ c ≤ (k : Int)) → (ps.foldl bump count).length ≤ 31 ∧ ∀ c ∈ ps.foldl bump count, 0 ≤ c ∧ c ≤ ((k + ps.length : Nat) : Int)
  | [], _, k, _, h1, h2 => ⟨h1, h2⟩
  | p :: ps, count, k, hp, h1, h2 => by
    obtain ⟨a, b⟩ := bump_ok (hp p List.mem_cons_self) h1 h2
    have := cnt_ok' ps (bump count p) (k + 1) (fun q hq => hp q (List.mem_cons_of_mem _ hq)) a b
    rw [List.foldl_cons, List.length_cons, show k + (ps.length + 1) = k + 1 + ps.length by omega]
    exact this
theorem cnt_ok {ps : List Nat} (h : Few ps) : (cnt ps).length ≤ 31 ∧ ∀ c ∈ cnt ps, 0 ≤ c ∧ c ≤ 30 := by
  obtain ⟨a, b⟩ := cnt_ok' ps [] 0 h.p (by simp) (by simp)
  refine ⟨a, fun c hc => ?_⟩
  have := b c hc
  have := h.l
  omega
theorem joinL_all {sep : List Nat} {P : Nat → Prop} : ∀ {rows : List (List Nat)}, (∀ c ∈ sep, P c) → (∀ r ∈ rows, ∀ c ∈ r, P c) → ∀ c ∈ joinL sep rows, P c
  | [], _, _, c, hc => by simp [joinL] at hc
  | [r], _, h, c, hc => h r List.mem_cons_self c hc
  | r :: r' :: rs, hs, h, c, hc => by
    rw [joinL, List.mem_append, List.mem_append] at hc
    rcases hc with (hc | hc) | hc
    · exact h r List.mem_cons_self c hc
    · exact hs c hc
    · exact joinL_all hs (fun q hq => h q (List.mem_cons_of_mem _ hq)) c hc
theorem joinL_len {sep : List Nat} {m : Nat} : ∀ {rows : List (List Nat)}, (∀ r ∈ rows, r.length ≤ m) → (joinL sep rows).length ≤ rows.length * (m + sep.length)
  | [], _ => by simp [joinL]
  | [r], h => by have := h r List.mem_cons_self; simp [joinL]; omega
  | r :: r' :: rs, h => by
    have h1 := h r List.mem_cons_self
    have h2 := joinL_len (sep := sep) (rows := r' :: rs) fun q hq => h q (List.mem_cons_of_mem _ hq)
    rw [joinL, List.length_append, List.length_append, List.length_cons, Nat.add_mul]
    omega
theorem fold_rep (c : Nat) : ∀ (k : Nat) (acc : Array Nat), ((List.replicate k #[c]).foldl (· ++ ·) acc).toList = acc.toList ++ List.replicate k c
  | 0, acc => by simp
  | k + 1, acc => by
    rw [List.replicate_succ, List.foldl_cons, fold_rep c k]
    simp [List.replicate_succ]
theorem mul_char (c : Nat) (n : Int) : Txt.mul ⟨#[c]⟩ n = sOf (List.replicate n.toNat c) := by
  apply sOf_eq
  unfold Txt.mul
  split
  · rename_i h
    rw [show n.toNat = 0 by omega]; rfl
  · split
    · rename_i h1 h2
      have : n = 1 := by simpa [Str.length] using h2
      subst this; rfl
    · show ((List.replicate n.toNat #[c]).foldl (· ++ ·) #[]).toList = _
      rw [fold_rep]; simp
theorem mul_ok (c : Nat) {n : Int} (h0 : -1000 ≤ n) (h1 : n ≤ 1000) : MulOk ⟨#[c]⟩ n := by
  refine ⟨?_, fun h _ => ?_, fun h _ => ?_⟩
  · rw [Bool.or_eq_false_iff]
    exact ⟨decide_eq_false (by omega), decide_eq_false (by omega)⟩
  · have : 1 ≤ (2 ^ 63 - 1 : Int) / n := Int.le_ediv_of_mul_le (by omega) (by omega)
    show ¬ ((1 : Nat) : Int) > _
    omega
  · unfold tooLong
    refine decide_eq_false ?_
    rw [sizeLine_eq]
    show ¬ (1 * n.toNat > _)
    omega
theorem jn_len {rows : List (List Nat)} {m : Nat} (h : ∀ r ∈ rows, r.length ≤ m) : (jn rows).length ≤ rows.length * (m + 2) := by
  rw [jn_eq]; exact joinL_len (sep := [13, 10]) h
end M3
end
-- part GF9
section
set_option maxRecDepth 100000
namespace M3
open PySem PySem.Calls PySem.Spec PyProof.Rows PySem.W PySem.Builtin PySem.Builtin.Str PySem.Builtin.Re
section
variable {P : Program} {w' : World} {P' : Program} {loose : List Str} {mg mb : Str → Option Value} {n : Nat}
set_option maxHeartbeats 8000000 in
theorem fn_headers : MakesHdrT (GG P w' P' loose mg mb) (n + 3) 254 := by
  intro a
  have hX : ∀ Z, ((GG P w' P' loose mg mb).plus a []).X Z → Holds Z (.list []) (.ref a) := fun Z h => h.2
  refine CvT.make (f := 146) (ps := [q "headers"]) rfl rfl rfl ⟨⟨_, rfl, rfl⟩, rfl, rfl, rfl, rfl, rfl, rfl, rfl, rfl, rfl⟩ ?_ (by decide) rfl rfl fun x => ?_
  · intro s v vs K hv
    match vs, hv with
    | [u], _ => exact binds_K K rfl rfl rfl rfl rfl
  refine ExST.ex (Ex1.assign (d := .addr a) rfl (Ev.ifexp (b := true) (Tr.cmp (Ev.name rfl rfl) Ev.none_ Cmp.isNot_addr rfl) (fun _ => Ev.name rfl rfl) (fun h => by cases h)) (fun _ _ => rfl)) (fun sl e => e) ?_
  refine ExST.ex (Ex1.if_ (b := false) (Tr.typeIs (T := "list") ⟨by rfl, by rfl, .inr ⟨by rfl, by rfl, by decide⟩⟩ ⟨by rfl, by rfl, .inr ⟨by rfl, by rfl, by decide⟩⟩ (Ev.asList hX (Ev.name rfl rfl)) (fun Z s v _ zin hv => by obtain ⟨b, vs, rfl, hs, _⟩ := hv; exact (hs.pl zin).list.typeIs) rfl rfl (fun _ => rfl) (.inr ⟨rfl, rfl⟩) rfl rfl) Ex.nil) (fun sl e => e) ?_
  refine ExST.set (Ev.name rfl rfl) rfl (by decide) (by decide) (fun env he => rfl) ?_
  refine ExS.ex (Ex1.if_ (b := true) (Tr.val Ev.bool_ Truth.bool (fun _ _ => rfl)) (Ex.cons (Ex1.for_ (ds := []) (tgs := []) (fun _ _ => rfl) (It.list rfl (Ev.asList hX (Ev.name rfl rfl))) rfl) Ex.nil)) (fun sl e => e) ?_
  exact ExS.nil
theorem sets_hdr {nm y : Str} {l : List (Str × Str)} (hx : okS nm = true) (hl : nm.length ≤ 100000) (hy : okS y = true) (hl2 : y.length ≤ 100000) (hk : ∀ p ∈ l, okS p.1 = true ∧ p.1.length ≤ 100000) (hlen : l.length ≤ 100000) :
    SetsHdr (GG P w' P' loose mg mb) (n + 4) 254 244 nm y l (setH l nm y) := by
  intro A Z s x a vs v1 v2 Q E rm z0 zin hi hz hp hh h1 h2 hq
  exact fn_setdefault hx hl hy hl2 hk hlen rm z0 zin hi hz hp hh h1 h2 hq
end
end M3
end
-- part GP5
section
set_option maxRecDepth 100000
namespace M3
open PySem PySem.Builtin PySem.Builtin.Str PySem.StrLaws
theorem sOf_append (a b : List Nat) : sOf a ++ sOf b = sOf (a ++ b) := by
  apply sOf_eq; rw [str_append]; rfl
theorem flat_sOf (l : List (List Nat)) : flat (l.map sOf) = l.flatten := by
  induction l with
  | nil => rfl
  | cons a l ih =>
    have : flat (sOf a :: l.map sOf) = a ++ flat (l.map sOf) := rfl
    rw [List.map_cons, this, ih]; rfl
/-- the net: letters' codes, and two ways from each place -/
structure Net where
  L : List Nat
  W : List (Nat × Nat)
structure NetOk (N : Net) : Prop where
  l4 : N.L.length = 4
  w4 : N.W.length = 4
  lc : ∀ c ∈ N.L, c = 97 ∨ c = 98
  wc : ∀ p ∈ N.W, p.1 < 4 ∧ p.2 < 4
abbrev Rows := List (List Nat)
/-- two things in order -/
def two' {α : Type} (lt : α → α → Bool) (x y : α) : α × α := if lt y x then (y, x) else (x, y)
def ltJ (a b : Rows) : Bool := decide (jn a < jn b)
def dotted (r : Rows) : Rows := r.map (46 :: ·)
def wayOf (N : Net) (k : Nat) : Nat × Nat := N.W.getD k (0, 0)
def farOf (V : List Rows) (p : Nat × Nat) : Rows := let q := two' ltJ (V.getD p.1 []) (V.getD p.2 []); q.1 ++ q.2
def stepV (N : Net) (V : List Rows) : List Rows := (N.L.zip N.W).map fun x => [46, x.1] :: dotted (farOf V x.2)
def startV (N : Net) : List Rows := N.L.map fun c => [[46, c]]
/-- rows as they can be sent -/
structure RowsOk (m : Nat) (r : Rows) : Prop where
  ne : r ≠ []
  len : r.length ≤ m
  row : ∀ x ∈ r, x.length ≤ 10 ∧ ∃ x', x = 46 :: x' ∧ ∀ c ∈ x', c ≠ 10 ∧ c ≠ 13
theorem jn_app : ∀ (a b : Rows), a ≠ [] → b ≠ [] → jn (a ++ b) = jn a ++ 13 :: 10 :: jn b
  | [], _, h, _ => absurd rfl h
  | [r], [], _, h => absurd rfl h
  | [r], x :: b, _, _ => rfl
  | r :: r' :: a, b, _, h => by
    show r ++ 13 :: 10 :: jn ((r' :: a) ++ b) = (r ++ 13 :: 10 :: jn (r' :: a)) ++ _
    rw [jn_app (r' :: a) b (by simp) h]
    simp
theorem RowsOk.app {m k : Nat} {a b : Rows} (x : RowsOk m a) (y : RowsOk k b) : RowsOk (m + k) (a ++ b) :=
  ⟨by have := x.ne; simp [this], by have := x.len; have := y.len; simp; omega, fun z hz => by
    rcases List.mem_append.mp hz with h | h
    · exact x.row z h
    · exact y.row z h⟩
theorem RowsOk.jnlen {m : Nat} {a : Rows} (x : RowsOk m a) : (jn a).length ≤ m * 12 := by
  have := jn_len (rows := a) (m := 10) fun r hr => (x.row r hr).1
  exact Nat.le_trans this (Nat.mul_le_mul_right _ x.len)
end M3
end
-- part GF10
section
set_option maxRecDepth 100000
namespace M3
open PySem PySem.Calls PySem.Spec PyProof.Rows PySem.W PySem.Builtin PySem.Builtin.Str PySem.Builtin.Re
def chD (c : Nat) : D := .str (sOf [c])
def wayD (p : Nat × Nat) : D := .list (dI [(p.1 : Int), (p.2 : Int)])
def vwS (r : Rows) : Str := sOf (jn r)
def VD (V : List Rows) : D := .list (dS (V.map vwS))
def lettersD (N : Net) : D := .list (N.L.map chD)
def waysD (N : Net) : D := .list (N.W.map wayD)
/-- four views that can be sent -/
structure VOk (m : Nat) (V : List Rows) : Prop where
  l4 : V.length = 4
  r : ∀ r ∈ V, RowsOk m r
theorem VOk.at_ {m : Nat} {V : List Rows} (h : VOk m V) {i : Nat} (hi : i < 4) : RowsOk m (V.getD i []) := by
  have : i < V.length := by rw [h.l4]; exact hi
  rw [List.getD_eq_getElem?_getD, List.getElem?_eq_getElem this]
  exact h.r _ (List.getElem_mem this)
theorem far_ok {m : Nat} {V : List Rows} (h : VOk m V) {p : Nat × Nat} (hp : p.1 < 4 ∧ p.2 < 4) : RowsOk (m + m) (farOf V p) := by
  unfold farOf two'
  dsimp only
  split
  · exact (h.at_ hp.2).app (h.at_ hp.1)
  · exact (h.at_ hp.1).app (h.at_ hp.2)
theorem dotted_ok {m : Nat} {r : Rows} (h : RowsOk m r) (hs : ∀ x ∈ r, x.length ≤ 9) : RowsOk m (dotted r) := by
  refine ⟨by unfold dotted; simp [h.ne], by unfold dotted; rw [List.length_map]; exact h.len, fun x hx => ?_⟩
  unfold dotted at hx
  rw [List.mem_map] at hx
  obtain ⟨y, hy, rfl⟩ := hx
  obtain ⟨_, x', rfl, h2⟩ := h.row y hy
  refine ⟨by have := hs _ hy; simp at this ⊢; omega, 46 :: x', rfl, fun c hc => ?_⟩
  rcases List.mem_cons.mp hc with rfl | hc
  · decide
  · exact h2 c hc
/-- what one quotedata tells -/
theorem far_sent (V : List Rows) (p : Nat × Nat) : sortK ltStr Str.empty [vwS (V.getD p.1 []), vwS (V.getD p.2 [])] = [vwS (two' ltJ (V.getD p.1 []) (V.getD p.2 [])).1, vwS (two' ltJ (V.getD p.1 []) (V.getD p.2 [])).2] := by
  rw [sortK2]
  have e : ltStr (vwS (V.getD p.2 [])) (vwS (V.getD p.1 [])) = ltJ (V.getD p.2 []) (V.getD p.1 []) := rfl
  rw [e]
  unfold two'
  cases ltJ (V.getD p.2 []) (V.getD p.1 []) <;> rfl
theorem far_join {m : Nat} {V : List Rows} (h : VOk m V) {p : Nat × Nat} (hp : p.1 < 4 ∧ p.2 < 4) : Txt.join (q "\r\n") (sortK ltStr Str.empty [vwS (V.getD p.1 []), vwS (V.getD p.2 [])]) = sOf (jn (farOf V p)) := by
  rw [far_sent, Txt_join]
  unfold farOf
  have n1 : (two' ltJ (V.getD p.1 []) (V.getD p.2 [])).1 ≠ [] := by
    unfold two'; split
    · exact (h.at_ hp.2).ne
    · exact (h.at_ hp.1).ne
  have n2 : (two' ltJ (V.getD p.1 []) (V.getD p.2 [])).2 ≠ [] := by
    unfold two'; split
    · exact (h.at_ hp.1).ne
    · exact (h.at_ hp.2).ne
  rw [jn_app _ _ n1 n2]
  show sOf (jn _ ++ [13, 10] ++ jn _) = _
  rw [List.append_assoc]; rfl
section
variable {P : Program} {w' : World} {P' : Program} {loose : List Str} {mg mb : Str → Option Value} {n : Nat}
def rhoV (N : Net) (st : List (List Rows)) : Rho := [(q "letters", .fz (lettersD N)), (q "ways", .fz (waysD N)), (q "views", .own (st.map VD))]
def nextV (N : Net) (st : List (List Rows)) (_ : Nat) : List (List Rows) := st ++ [stepV N (st.getLastD [])]
def mOf : Nat → Nat
  | 0 => 1
  | k + 1 => 1 + (mOf k + mOf k)
/-- what is known of the views so far -/
structure StOk (N : Net) (k : Nat) (st : List (List Rows)) : Prop where
  len : st.length = k + 1
  ok : VOk (mOf k) (st.getLastD [])
  row : ∀ r ∈ st.getLastD [], ∀ x ∈ r, x.length ≤ 2 + k
theorem zipD_maps {α β : Type} (f : α → D) (g : β → D) : ∀ (l : List α) (m : List β), zipD (l.map f) (m.map g) = (l.zip m).map fun x => .tup [f x.1, g x.2]
  | [], m => by cases m <;> rfl
  | _ :: _, [] => rfl
  | a :: l, b :: m => by
    show .tup [f a, g b] :: zipD (l.map f) (m.map g) = _
    rw [zipD_maps f g l m]; rfl
theorem mOf_le {k : Nat} (h : k < 3) : mOf k ≤ 7 := by
  have : k = 0 ∨ k = 1 ∨ k = 2 := by omega
  rcases this with rfl | rfl | rfl <;> decide
theorem ForTo.count {G : Gc} {sc : Scope} {tgs : List Str} {St : Type} {tg : Expr} {body : List Stmt} (f : St → Nat → St) (R : St → Rho) (I : Nat → St → Prop) {M : Nat}
    (step : ∀ k st, k < M → I k st → I (k + 1) (f st k) ∧ ∃ ρ₁, Tg G sc tgs (R st) tg (.int (k : Int)) ρ₁ ∧ Ex G n sc ρ₁ body (.nx (R (f st k)))) : ∀ (m k : Nat) (st : St), k + m ≤ M → I k st → ForTo G n sc tgs tg body ((List.range' k m).map fun (i : Nat) => D.int (i : Int)) (R st) (.nx (R ((List.range' k m).foldl f st)))
  | 0, _, _, _, _ => rfl
  | m + 1, k, st, hm, hi => by
    obtain ⟨h1, ρ₁, h2, h3⟩ := step k st (by omega) hi
    exact ⟨ρ₁, h2, .inl ⟨_, h3, ForTo.count f R I step m (k + 1) (f st k) (by omega) h1⟩⟩
set_option maxHeartbeats 16000000 in
theorem fn_views {N : Net} (h : NetOk N) (hst : ∀ k, k < 3 → ∀ st, StOk N k st → StOk N (k + 1) (nextV N st k)) (h0 : StOk N 0 [startV N]) : Fn (GG P w' P' loose mg mb) (n + 4) 263 [lettersD N, waysD N] (.list (([0, 1, 2] : List Nat).foldl (nextV N) [startV N] |>.map VD)) := by
  refine Fn.of (ns := [q "letters", q "ways"]) ⟨⟨_, rfl, rfl⟩, rfl, rfl, rfl, rfl, rfl, rfl, rfl, rfl, rfl⟩ ?_ (by decide) rfl rfl ?_
  · intro vs hv
    match vs, hv with
    | [v, u], _ => rfl
  refine Ex.cons (Ex1.assignL (l := [VD (startV N)]) rfl (EvL.disp (Evs.cons (EvL.ev (EvL.comp (tgs := [q "letter"]) (by decide +kernel) unroll0 (fun _ _ => rfl) (It.list rfl (Ev.name rfl rfl)) (Turns.of (Turns.one (e := chD) (f := fun c => D.str (sOf [46, c])) N.L fun c hc => ?_) (by simp [dS, startV, vwS, jn])) ?_)) Evs.nil (fun _ => rfl)) (by show 1 ≤ 1000; decide)) (swaps_at rfl)) ?_
  · exact Turn.t0 (Tg.name rfl (by decide)) (Rho.sub_set (by rfl)) (Ev.of (Ev.bin Ev.str_ (Ev.name rfl rfl) (Op2.add_str (x := sOf [46]) (by rw [sOf_len, sOf_len, sizeLine_eq]; show 1 + 1 ≤ 16777216; decide))) (by rw [sOf_append]; rfl))
  · simp [dS, startV]; rw [h.l4]; decide
  refine Ex.cons (Ex1.for_ (tgs := [q "depth"]) (out := .nx (rhoV N (([0, 1, 2] : List Nat).foldl (nextV N) [startV N]))) (fun _ _ => rfl) (It.range1' (k := 3) rfl ⟨by rfl, by rfl, .inr ⟨by rfl, by rfl, by decide⟩⟩ (by decide) Ev.int_ rfl (fun _ => rfl)) ?_) ?_
  · show ForTo _ _ _ [q "depth"] _ _ ((List.range' 0 3).map fun (i : Nat) => D.int (i : Int)) (rhoV N [startV N]) (.nx (rhoV N ((List.range' 0 3).foldl (nextV N) [startV N])))
    refine ForTo.count (nextV N) (rhoV N) (StOk N) (M := 3) (fun k st hk I => ⟨hst k hk st I, _, Tg.name rfl (by decide), ?_⟩) 3 0 [startV N] (by decide) h0
    have hl : st.length = k + 1 := I.len
    have hlast : st.getD k [] = st.getLastD [] := by
      rw [List.getD_eq_getElem?_getD, List.getLastD_eq_getLast?, List.getLast?_eq_getElem?, hl]; rfl
    have V4 := I.ok
    have hrow := I.row
    have hg : (st.map VD)[((k : Nat) : Int).toNat]? = some (VD (st.getLastD [])) := by
      rw [Int.toNat_natCast, List.getElem?_map, ← hlast, List.getD_eq_getElem?_getD, List.getElem?_eq_getElem (by omega : k < st.length)]; rfl
    generalize hV : st.getLastD [] = V at *
    have hVg : ∀ i, i < 4 → (dS (V.map vwS))[((i : Nat) : Int).toNat]? = some (D.str (vwS (V.getD i []))) := fun i hi => by
      have : i < V.length := by rw [V4.l4]; exact hi
      rw [Int.toNat_natCast]; unfold dS
      rw [List.getElem?_map, List.getElem?_map, List.getD_eq_getElem?_getD, List.getElem?_eq_getElem this]; rfl
    refine Ex.cons (Ex1.assignComp (outs := dS (N.W.map fun p => sOf (jn (dotted (farOf V p))))) rfl (swaps_at rfl) (tgs := [q "ends"]) (by decide +kernel) unroll0 (fun _ _ => rfl) (It.list rfl (Ev.name rfl rfl)) (Turns.of (Turns.one (e := wayD) (f := fun p => D.str (sOf (jn (dotted (farOf V p))))) N.W fun p hp => ?_) (by simp [dS])) (by rw [dS_length, List.length_map, h.w4]; decide)) ?_
    · have hp' := h.wc p hp
      have fo := far_ok V4 hp'
      have hm := mOf_le hk
      have fl := fo.jnlen
      have fd := (dotted_ok fo (fun x hx => by
        unfold farOf two' at hx
        dsimp only at hx
        have : x ∈ V.getD p.1 [] ∨ x ∈ V.getD p.2 [] := by
          split at hx
          · exact (List.mem_append.mp hx).symm
          · exact List.mem_append.mp hx
        have hmem : ∀ i, i < 4 → V.getD i [] ∈ V := fun i hi => by
          have : i < V.length := by rw [V4.l4]; exact hi
          rw [List.getD_eq_getElem?_getD, List.getElem?_eq_getElem this]; exact List.getElem_mem this
        rcases this with h' | h'
        · have := hrow _ (hmem _ hp'.1) x h'; omega
        · have := hrow _ (hmem _ hp'.2) x h'; omega)).jnlen
      have fln := fo.len
      have a1 := (V4.at_ hp'.1).jnlen
      have a2 := (V4.at_ hp'.2).jnlen
      refine Turn.t0 (Tg.name rfl (by decide)) (Rho.sub_set (by rfl)) (Ev.call (v := .ref 121) (ds := [.str (sOf (jn (farOf V p)))]) ⟨by rfl, by rfl, .inl (by rfl)⟩ (Kpr.of_in rfl) (Evs.cons (Ev.of (Ev.meth (b := .str (q "\r\n")) (ds := [.list (dS (sortK ltStr Str.empty [vwS (V.getD p.1 []), vwS (V.getD p.2 [])]))]) (fun env => ⟨_, rfl⟩) Ev.str_ (Mt.str PySem.F.plainAttrs_str PySem.F.slot_str_join PySem.F.type_str_join (Cv.join ?_)) (Evs.cons (EvL.ev (EvL.call (v := .builtin "sorted") (ds := [.list (dS [vwS (V.getD p.1 []), vwS (V.getD p.2 [])])]) ⟨by rfl, by rfl, .inr ⟨by rfl, by rfl, by decide⟩⟩ Kpr.builtin (Evs.cons (EvL.ev (EvL.comp (tgs := [q "end"]) (by decide +kernel) unroll0 (fun _ _ => rfl) (It.list rfl (Ev.name rfl rfl)) (Turns.of (Turns.one (e := fun (i : Nat) => D.int (i : Int)) (f := fun i => D.str (vwS (V.getD i []))) [p.1, p.2] fun i hi => ?_) rfl) (by show 2 ≤ 100000; decide))) Evs.nil (fun _ => rfl)) rfl (CvL.sortedStrs (by show 2 ≤ 2; decide) (by show 2 < 64; decide)))) Evs.nil (fun _ => rfl)) rfl) (by rw [far_join V4 hp'])) Evs.nil (fun _ => rfl)) rfl (fn_quote (fun r hr => (fo.row r hr).2) (by omega) (by show (jn (dotted (farOf V p))).length ≤ _; omega) (by omega)))
      · rw [far_sent]
        show ((jn (two' ltJ (V.getD p.1 []) (V.getD p.2 [])).1).length + ((jn (two' ltJ (V.getD p.1 []) (V.getD p.2 [])).2).length + 0)) + 2 * 2 ≤ _
        unfold two'
        split
        · dsimp only; omega
        · dsimp only; omega
      · have hi4 : i < 4 := by
          simp only [List.mem_cons, List.not_mem_nil, or_false] at hi
          rcases hi with rfl | rfl
          · exact hp'.1
          · exact hp'.2
        exact Turn.t0 (Tg.name rfl (by decide)) (Rho.sub_set (by rfl)) (Ev.sub rfl (Ev.subOwn rfl rfl rfl (Ev.name rfl rfl) (by omega) (by omega) hg) (Ev.name rfl rfl) (Sub.list (by omega) (by omega) (hVg i hi4)))
    refine Ex.freeze (x := q "seen") rfl ?_
    have hzl : (N.L.zip N.W).length = 4 := by rw [List.length_zip, h.l4, h.w4]; rfl
    refine Ex.cons (Ex1.append (l := st.map VD) (d := VD (stepV N V)) rfl rfl (fun env => ⟨_, rfl⟩) (EvL.ev (EvL.comp (tgs := [q "letter", q "far"]) (by decide +kernel) unroll0 (fun _ _ => rfl) (It.zip ⟨by rfl, by rfl, .inr ⟨by rfl, by rfl, by decide⟩⟩ (Evs.cons (Ev.name rfl rfl) (Evs.cons (Ev.name rfl rfl) Evs.nil (fun _ => rfl)) (fun _ => rfl)) rfl) ?_ ?_)) rfl (fun _ => rfl) (by rw [List.length_map]; omega) (inter_at rfl) (fun _ => rfl)) ?_
    · have e1 : dS (N.W.map fun p => sOf (jn (dotted (farOf V p)))) = N.W.map fun p => D.str (sOf (jn (dotted (farOf V p)))) := by simp [dS]
      rw [e1, zipD_maps]
      refine Turns.of (Turns.one (e := fun x : Nat × (Nat × Nat) => .tup [chD x.1, .str (sOf (jn (dotted (farOf V x.2))))]) (f := fun x => D.str (vwS ([46, x.1] :: dotted (farOf V x.2)))) (N.L.zip N.W) fun x hx => ?_) (by simp [dS, stepV])
      have hx2 : x.2 ∈ N.W := (List.of_mem_zip hx).2
      have hp' := h.wc x.2 hx2
      have fo := far_ok V4 hp'
      have hm := mOf_le hk
      have hne : dotted (farOf V x.2) ≠ [] := by unfold dotted; simp [fo.ne]
      have hlen : (jn (dotted (farOf V x.2))).length ≤ 2000 := by
        have := jn_len (rows := dotted (farOf V x.2)) (m := 11) fun r hr => by
          unfold dotted at hr
          rw [List.mem_map] at hr
          obtain ⟨y, hy, rfl⟩ := hr
          have := (fo.row y hy).1
          simp; omega
        have hl : (dotted (farOf V x.2)).length ≤ 14 := by unfold dotted; rw [List.length_map]; have := fo.len; omega
        have h2 := Nat.mul_le_mul_right (11 + 2) hl
        omega
      refine Turn.t0 (Tg.tup2 (.inl rfl) (by decide)) (fun y t e => Rho.sub_set rfl y t (Rho.sub_set rfl y t e)) (Ev.of (Ev.bin (Ev.bin (Ev.bin Ev.str_ (Ev.name rfl rfl) (Op2.add_str (x := sOf [46]) (y := sOf [x.1]) ?_)) Ev.str_ (Op2.add_str (y := sOf [13, 10]) ?_)) (Ev.name rfl rfl) (Op2.add_str ?_)) ?_)
      · rw [sOf_len, sOf_len, sizeLine_eq]; show 1 + 1 ≤ 16777216; decide
      · rw [sOf_append, sOf_len, sOf_len, sizeLine_eq]; show 2 + 2 ≤ 16777216; decide
      · rw [sOf_append, sOf_append, sOf_len, sOf_len, sizeLine_eq]; show 4 + _ ≤ 16777216; omega
      · rw [sOf_append, sOf_append, sOf_append]
        have e := jn_app [[46, x.1]] (dotted (farOf V x.2)) (by simp) hne
        show D.str (sOf _) = D.str (sOf (jn ([[46, x.1]] ++ dotted (farOf V x.2))))
        rw [e]
        rfl
    · simp [dS, stepV, hzl]
    · have eL : rhoV N (nextV N st k) = [(q "letters", .fz (lettersD N)), (q "ways", .fz (waysD N)), (q "views", .own (st.map VD ++ [VD (stepV N V)]))] := by
        unfold rhoV nextV; rw [hV, List.map_append]; rfl
      rw [eL]
      refine Ex.weak (sub_of ?_) Ex.nil
      intro p hp
      simp only [List.mem_cons, List.not_mem_nil, or_false] at hp
      rcases hp with rfl | rfl | rfl <;> rfl
  · refine Ex.freeze (x := q "views") rfl ?_
    exact Ex.leave (Ex1.ret (Ev.name rfl rfl))
end
end M3
end
-- part GF11
section
set_option maxRecDepth 100000
namespace M3
open PySem PySem.Calls PySem.Spec PyProof.Rows PySem.W PySem.Builtin PySem.Builtin.Str PySem.Builtin.Re
def numS (i : Nat) : Str := Str.ofString (toString (i : Int))
/-- the head's pairs: the names that were seen, each with its number -/
def headOf (seen : List (List Nat)) : List (Str × Str) := (seen.zipIdx).map fun p => (sOf p.1, numS p.2)
def numStep (seen : List (List Nat)) (x : List Nat) : Nat × List (List Nat) := if seen.contains x then (seen.idxOf x, seen) else (seen.length, seen ++ [x])
def numsOf : List (List Nat) → List (List Nat) → List Nat
  | _, [] => []
  | seen, x :: xs => (numStep seen x).1 :: numsOf (numStep seen x).2 xs
theorem sOf_inj {a b : List Nat} (h : sOf a = sOf b) : a = b := by
  have := congrArg (fun s : Str => s.cps.toList) h
  exact this
theorem sOf_beq (a b : List Nat) : (sOf a == sOf b) = (a == b) := by
  by_cases h : a = b
  · subst h; simp
  · rw [show (a == b) = false by simpa using h]
    simp only [beq_eq_false_iff_ne, ne_eq]
    exact fun e => h (sOf_inj e)
theorem findH_head (x : List Nat) : ∀ (seen : List (List Nat)) (k : Nat), findH ((seen.zipIdx k).map fun p => (sOf p.1, numS p.2)) (sOf x) = if seen.contains x then some (numS (k + seen.idxOf x)) else none
  | [], k => rfl
  | y :: seen, k => by
    unfold findH
    rw [List.zipIdx_cons, List.map_cons, List.findSome?_cons, List.contains_cons, List.idxOf_cons]
    have e : ((sOf y, numS k).1 == sOf x) = (y == x) := sOf_beq _ _
    rw [e]
    have ih := findH_head x seen (k + 1)
    unfold findH at ih
    by_cases h : y = x
    · subst h
      simp
    · have h1 : (y == x) = false := by simpa using h
      have h2 : (x == y) = false := by simpa using fun e => h e.symm
      rw [h1, h2, ih]
      simp only [Bool.false_or, Bool.false_eq_true, if_false]
      by_cases hc : seen.contains x = true
      · simp only [hc, if_true, cond_false]
        rw [show k + 1 + seen.idxOf x = k + (seen.idxOf x + 1) by omega]
      · simp only [hc, Bool.false_eq_true, if_false]
theorem setH_head (seen : List (List Nat)) (x : List Nat) : setH (headOf seen) (sOf x) (numS seen.length) = (numS (numStep seen x).1, headOf (numStep seen x).2) := by
  unfold setH headOf numStep
  rw [findH_head]
  by_cases hc : seen.contains x = true
  · rw [if_pos hc, if_pos hc]
    simp
  · rw [if_neg hc, if_neg hc]
    simp [List.zipIdx_append]
theorem headOf_len (seen : List (List Nat)) : (headOf seen).length = seen.length := by simp [headOf]
/-- a name that can be told -/
def nameOk (x : List Nat) : Prop := okS (sOf x) = true ∧ x.length ≤ 100000
theorem numS_ok {i : Nat} (h : i < 100) : okS (numS i) = true ∧ (numS i).length ≤ 10 := by
  have : ∀ j : Fin 100, (okS (numS j.val) && decide ((numS j.val).length ≤ 10)) = true := by decide +kernel
  have := this ⟨i, h⟩
  simp only [Bool.and_eq_true, decide_eq_true_eq] at this
  exact this
section
variable {P : Program} {w' : World} {P' : Program} {loose : List Str} {mg mb : Str → Option Value} {n : Nat}
set_option maxHeartbeats 8000000 in
theorem fn_len {a : Addr} {l : List (Str × Str)} (hl : l.length ≤ 100000) : Fn ((GG P w' P' loose mg mb).plus a (l.map hpair)) (n + 2) 160 [hD a] (.int (l.length : Int)) := by
  have hX : ∀ Z, ((GG P w' P' loose mg mb).plus a (l.map hpair)).X Z → Holds Z (.list (l.map hpair)) (.ref a) := fun Z h => h.2
  refine Fn.of (ns := [q "self"]) ⟨⟨_, rfl, rfl⟩, rfl, rfl, rfl, rfl, rfl, rfl, rfl, rfl, rfl⟩ ?_ (by decide) rfl rfl ?_
  · intro vs hv
    match vs, hv with
    | [v], _ => rfl
  exact Ex.leave (Ex1.ret (Ev.of (Ev.call (v := .builtin "len") ⟨by rfl, by rfl, .inr ⟨by rfl, by rfl, by decide⟩⟩ Kpr.builtin (Evs.cons (Ev.asList hX (Ev.attr (Ev.name rfl rfl) rfl rfl (fun _ => rfl))) Evs.nil (fun env => rfl)) rfl (Cv.len (by rw [List.length_map]; omega))) (by rw [List.length_map])))
end
end M3
end
-- part GF12
section
set_option maxRecDepth 100000
namespace M3
open PySem PySem.Calls PySem.Spec PyProof.Rows PySem.W PySem.Builtin PySem.Builtin.Str PySem.Builtin.Re
/-- a view's name -/
def nmV (r : Rows) : List Nat := joinL [47] r
def abRow (x : List Nat) : Prop := ∀ c ∈ x, c = 46 ∨ c = 97 ∨ c = 98
theorem joinL_mem {sep : List Nat} : ∀ {rows : List (List Nat)} {c : Nat}, c ∈ joinL sep rows → (∃ r ∈ rows, c ∈ r) ∨ c ∈ sep
  | [], c, h => by cases h
  | [r], c, h => .inl ⟨r, List.mem_singleton.mpr rfl, h⟩
  | r :: r' :: rs, c, h => by
    rw [joinL] at h
    rcases List.mem_append.mp h with h | h
    · rcases List.mem_append.mp h with h | h
      · exact .inl ⟨r, List.mem_cons_self, h⟩
      · exact .inr h
    · rcases joinL_mem h with ⟨q, hq, hc⟩ | h
      · exact .inl ⟨q, List.mem_cons_of_mem _ hq, hc⟩
      · exact .inr h
/-- a view that can be numbered -/
structure NumOk (r : Rows) : Prop where
  ok : RowsOk 15 r
  ab : ∀ x ∈ r, abRow x
theorem NumOk.name {r : Rows} (h : NumOk r) : nameOk (nmV r) := by
  refine ⟨?_, ?_⟩
  · unfold okS
    rw [List.all_eq_true]
    intro c hc
    rcases joinL_mem hc with ⟨x, hx, hc⟩ | hc
    · rcases h.ab x hx c hc with rfl | rfl | rfl <;> decide
    · rw [List.mem_singleton] at hc; subst hc; decide
  · have := joinL_len (sep := [47]) (rows := r) (m := 10) fun x hx => (h.ok.row x hx).1
    have h2 := h.ok.len
    have h3 := Nat.mul_le_mul_right (10 + [47].length) h2
    rw [show [47].length = 1 from rfl] at this h3
    unfold nmV
    omega
theorem numsOf_len : ∀ (xs seen : List (List Nat)), (numsOf seen xs).length = xs.length
  | [], _ => rfl
  | x :: xs, seen => by rw [numsOf, List.length_cons, List.length_cons, numsOf_len xs]
theorem NumOk.replace {r : Rows} (h : NumOk r) : Txt.replace (vwS r) (q "\r\n") (q "/") = sOf (nmV r) := by
  have := replace_rows (sub := q "\r\n") (z := q "/") (c := 13) (t := [10]) rfl (rows := r) h.ok.ne (fun x hx d hd => by
    rcases h.ab x hx d hd with rfl | rfl | rfl <;> decide)
  unfold vwS nmV
  rw [jn_eq]
  exact this
def seenOf : List (List Nat) → List (List Nat) → List (List Nat)
  | seen, [] => seen
  | seen, x :: xs => seenOf (numStep seen x).2 xs
def IN (a : Addr) (seen : List (List Nat)) (Z : Zm) (s : Shared) : Prop := 0 < s.toks ∧ Z a = none ∧ ∃ vs, PL s.heap a vs.toArray ∧ HoldsL Z ((headOf seen).map hpair) vs
theorem IN_x (a : Addr) (seen : List (List Nat)) : Xtra (fun b => b = a) (IN a seen) := by
  refine ⟨fun U Z s Z' s' hi u hn ht => ?_, fun Z s b o hi hb e => ?_⟩
  · obtain ⟨h1, h2, vs, h3, h4⟩ := hi
    obtain ⟨o, e, r⟩ := id h3
    have nu := hn a o rfl e
    exact ⟨Nat.lt_of_lt_of_le h1 ht, u.zn a o nu e h2, vs, ⟨o, u.keep a o nu e, r⟩, HoldsL.mono u.z h4⟩
  · obtain ⟨h1, h2, vs, h3, h4⟩ := hi
    subst hb
    exact IsList.notOdd h3 e
/-- what has been seen so far -/
def SeenOk (m : Nat) (seen : List (List Nat)) : Prop := seen.length ≤ m ∧ ∀ x ∈ seen, nameOk x
theorem SeenOk.step {m : Nat} {seen : List (List Nat)} {x : List Nat} (h : SeenOk m seen) (hx : nameOk x) : SeenOk (m + 1) (numStep seen x).2 := by
  unfold numStep
  split
  · exact ⟨Nat.le_succ_of_le h.1, h.2⟩
  · refine ⟨by have := h.1; simp; omega, fun y hy => ?_⟩
    rcases List.mem_append.mp hy with hy | hy
    · exact h.2 y hy
    · rw [List.mem_singleton] at hy; subst hy; exact hx
theorem numStep_lt {m : Nat} {seen : List (List Nat)} {x : List Nat} (h : SeenOk m seen) : (numStep seen x).1 ≤ m := by
  unfold numStep
  split
  · rename_i hc
    have : seen.idxOf x < seen.length := List.idxOf_lt_length_iff.mpr (by simpa using hc)
    have := h.1
    show seen.idxOf x ≤ m
    omega
  · exact h.1
theorem SeenOk.head {m : Nat} {seen : List (List Nat)} (h : SeenOk m seen) : ∀ p ∈ headOf seen, okS p.1 = true ∧ p.1.length ≤ 100000 := by
  intro p hp
  unfold headOf at hp
  rw [List.mem_map] at hp
  obtain ⟨⟨x, i⟩, hx, rfl⟩ := hp
  have hx' : x ∈ seen := by
    have := List.fst_mem_of_mem_zipIdx hx
    exact this
  have := h.2 x hx'
  exact ⟨this.1, by rw [sOf_len]; exact this.2⟩
section
variable {G : Gc} {n : Nat} {sc : Scope} {ρ : Rho} {tgs : List Str}
theorem TurnsX.nums {pt : PTr} {a : Addr} (hstep : ∀ (m : Nat) (seen : List (List Nat)) (r : Rows), m < 50 → SeenOk m seen → NumOk r → TurnX G (fun b => b = a) (IN a seen) (IN a (numStep seen (nmV r)).2) n sc tgs ρ pt (.str (vwS r)) [.int ((numStep seen (nmV r)).1 : Int)]) :
    ∀ (V : List Rows) (m : Nat) (seen : List (List Nat)), m + V.length ≤ 50 → SeenOk m seen → (∀ r ∈ V, NumOk r) → TurnsX G (fun b => b = a) (IN a) n sc tgs ρ pt (dS (V.map vwS)) seen (dI ((numsOf seen (V.map nmV)).map fun (i : Nat) => (i : Int))) (seenOf seen (V.map nmV))
  | [], m, seen, _, _, _ => ⟨rfl, rfl⟩
  | r :: V, m, seen, hm, hs, hV => by
    rw [List.length_cons] at hm
    exact ⟨[.int ((numStep seen (nmV r)).1 : Int)], _, _, rfl, hstep m seen r (by omega) hs (hV r List.mem_cons_self), TurnsX.nums hstep V (m + 1) (numStep seen (nmV r)).2 (by omega) (hs.step (hV r List.mem_cons_self).name) fun r' h' => hV r' (List.mem_cons_of_mem _ h')⟩
end
section
variable {P : Program} {w' : World} {P' : Program} {loose : List Str} {mg mb : Str → Option Value} {n : Nat}
set_option maxHeartbeats 16000000 in
theorem fn_numbers {V : List Rows} (hl : V.length ≤ 50) (hV : ∀ r ∈ V, NumOk r) : FnL (GG P w' P' loose mg mb) (n + 5) 268 [VD V] (dI ((numsOf [] (V.map nmV)).map fun (i : Nat) => (i : Int))) := by
  refine FnL.of (ns := [q "views"]) ⟨⟨_, rfl, rfl⟩, rfl, rfl, rfl, rfl, rfl, rfl, rfl, rfl, rfl⟩ ?_ (by decide) rfl rfl ?_
  · intro vs hv
    match vs, hv with
    | [v], _ => rfl
  intro A env g Zg Z s Q E rm he S hq
  -- head = Headers([])
  refine wpAny_execs_cons (newHdrOut (n := n + 4) rm he S fn_headers ⟨by rfl, by rfl, .inl (by rfl)⟩ (Kpr.of_in rfl) rfl (swaps_at rfl) fun a Z1 s1 hs1 ht1 S1 ga hz1 hl1 => ?_)
  -- the numbers
  refine wpAny_execs_cons (wpAny_Return_some ?_)
  rw [eval_ListComp]
  refine comp_coreX (Y := fun b => b = a) (I := IN a) (p := firstIterPos _ _) (i := []) (j := seenOf [] (V.map nmV)) (tgs := [q "view"]) (compOk.at_ (by decide +kernel)) unroll0 (IN_x a) (fun _ => rfl) (It.list rfl (Ev.name rfl rfl)) (TurnsX.nums ?hs V 0 [] (by omega) ⟨Nat.le_refl _, fun _ h => by cases h⟩ hV) (by rw [dI_length, List.length_map, numsOf_len, List.length_map]; omega) rm he S1.sees ⟨ht1, hz1, [], hl1, rfl⟩ (fun b hb => by subst hb; obtain ⟨o, e, _⟩ := hl1; exact ⟨o, e⟩) fun b vs C m Z2 s2 u _ hbn hzb hlb hhb hC hm hzC => ?main
  case main =>
    refine ⟨m, hm, fun h' hs' => ?_⟩
    have haC : b ≠ C := Ne.symm (Ns.ne_list hm hlb)
    have hl' : PL h' b vs.toArray := by obtain ⟨o, e, r⟩ := hlb; exact ⟨o, (hs'.2 b haC).trans e, r⟩
    have gn : ∀ c, s1.heap.get? c = none → g.get? c = none := fun c hc => by
      cases e : g.get? c with
      | none => rfl
      | some o => rw [S1.keep _ _ e] at hc; cases hc
    have gb := gn b hbn
    refine hq _ Z2 _ ?_ ⟨b, vs, rfl, gb, hzb, hl', hhb, ?_⟩
    · obtain ⟨h2, t2, e2⟩ := u.st
      exact st_tr hs1 ⟨h', t2, by rw [e2]⟩
    · refine ⟨fun c o e => ?_, fun c o e => ?_, S1.zg.trans u.z, fun c o e nz => ?_⟩
      · exact (hs'.2 c fun qq => by subst qq; rw [hzC] at e; cases e).trans (u.zin c o e)
      · exact (hs'.2 c fun qq => by subst qq; rw [gn _ hC] at e; cases e).trans (u.keep c o (fun qq => by subst qq; rw [ga] at e; cases e) (S1.keep c o e))
      · exact u.zn c o (fun qq => by subst qq; rw [ga] at e; cases e) (S1.keep c o e) (S1.zng c o e nz)
  case hs =>
    intro m seen r hm hs hr A env D Z s acc accd v K E rm he S hi hYD hv hl hz hh hsz hK
    obtain ⟨htk, hza, ws, hpa, hha⟩ := hi
    refine wpAny_toks (Tg.name (x := q "view") (tgs := [q "view"]) rfl (by decide) A env (onlyAt D) Z s v _ E rm.hh he S hv fun s1 u1 S1 ht1 => ?_)
    have nw : ∀ c us, PL s.heap c us → PL s1.heap c us := fun c us h => by obtain ⟨o, e, r⟩ := id h; exact ⟨o, u1.keep c o (fun q => Wt.list S q h) e, r⟩
    have hn := hr.name
    have hk := numStep_lt (x := nmV r) hs
    have hy := numS_ok (i := seen.length) (by have := hs.1; omega)
    have hvl : (vwS r).length ≤ 1000 := by
      have := hr.ok.jnlen
      show (sOf (jn r)).length ≤ 1000
      rw [sOf_len]; omega
    refine callOut1 (f := .type "int") ⟨by rfl, by rfl, .inr ⟨by rfl, by rfl, by decide⟩⟩ Kpr.type S1 he rfl (fun _ => rfl) ?_
    refine wpAny_toks (setNum (n := n + 4) (x := q "head") (a := a) (C := 254) (f := 244) (l := headOf seen) (nm := sOf (nmV r)) (y := numS seen.length) (r := setH (headOf seen) (sOf (nmV r)) (numS seen.length)) rm he S1 (allFz.of rfl) rfl rfl hza (nw a _ hpa) hha (Nat.lt_of_lt_of_le htk ht1) (fun env => ⟨_, rfl⟩) (by rfl) rfl (Kpr.of_in rfl) ?_ ?_ rfl (fun _ => rfl) (sets_hdr hn.1 (by rw [sOf_len]; exact hn.2) hy.1 (by omega) hs.head (by rw [headOf_len]; have := hs.1; omega)) fun w Z2 s2 vs2 u2 hz2 hl2 hh2 hw S2 ht2 => ?_)
    · exact EvT.of (EvT.replace (x := vwS r) (fun env => ⟨_, rfl⟩) (Ev.name rfl rfl) rfl (by rw [show (Str.length (q "/")) = 1 from rfl]; omega)) (by rw [hr.replace])
    · exact Ev.of (Ev.call (v := .type "str") ⟨by rfl, by rfl, .inr ⟨by rfl, by rfl, by decide⟩⟩ Kpr.type (Evs.cons (Ev.call (v := .builtin "len") ⟨by rfl, by rfl, .inr ⟨by rfl, by rfl, by decide⟩⟩ Kpr.builtin (Evs.cons (Ev.name rfl rfl) Evs.nil (fun _ => rfl)) rfl (Cv.lenInst (f := 160) (by rfl) (by rfl) (fn_len (by rw [headOf_len]; have := hs.1; omega)) (by omega) (by rw [headOf_len]; have := hs.1; omega))) Evs.nil (fun _ => rfl)) rfl (Cv.strInt (Nat.lt_of_le_of_lt (Nat.log2_le_self _) (by rw [headOf_len]; have := hs.1; omega)))) (by rw [headOf_len]; rfl)
    · refine ⟨S2.z0.bs S2.zin, ?_⟩
      have e1 : (setH (headOf seen) (sOf (nmV r)) (numS seen.length)) = (numS (numStep seen (nmV r)).1, headOf (numStep seen (nmV r)).2) := setH_head seen (nmV r)
      rw [e1] at hw hh2
      refine wpAny_toks (Cv.intNum (G := GG P w' P' loose mg mb) (n := n + 4) (i := ((numStep seen (nmV r)).1 : Int)) (by omega) (by omega) A Z2 s2 [w] _ E rm S2.z0 S2.zin (HoldsL.one hw) fun v3 Z3 s3 st3 hv3 ht3 => ?_)
      have lD1 := nw D _ hl
      have lD2 : PL s2.heap D acc.toArray := by obtain ⟨o, e, q⟩ := lD1; exact ⟨o, u2.keep D o hYD e, q⟩
      have lD3 := IsList.keeps lD2 st3.keep
      obtain ⟨oD, eD⟩ := IsList.get lD1
      obtain ⟨oD2, eD2⟩ := IsList.get lD2
      obtain ⟨oa2, ea2⟩ := IsList.get hl2
      have zD3 := st3.zn D oD2 eD2 (u2.zn D oD hYD eD hz)
      have hhD := HoldsL.mono (u2.z.trans st3.z) hh
      have S3 := S2.step st3
      refine wpAny_toks (wpAny_mono (Sees.push (K := fun s' => s3.toks ≤ s'.toks → K s') S3 lD3 zD3 hhD hv3 (by simp at hsz; omega) fun s4 acc' u4 S4 hl4 hh4 ht4 => ?_) (fun _ _ q hle => q hle) fun _ _ q => q)
      have aD : ¬ a = D := fun e => hYD e.symm
      have la3 := IsList.keeps hl2 st3.keep
      obtain ⟨oa3, ea3⟩ := IsList.get la3
      have la4 : PL s4.heap a vs2.toArray := by obtain ⟨o, e, q⟩ := la3; exact ⟨o, u4.keep a o aD e, q⟩
      refine hK Z3 s4 acc' ?_ (S4.weak (Rho.sub_set rfl)) ⟨?_, st3.zn a oa2 ea2 hz2, vs2, la4, HoldsL.mono st3.z hh2⟩ hl4 zD3 hh4
      · exact (((u1.mono (Y := fun b => Wr env [q "view"] D b ∨ b = a) fun b h => .inl (.inl h)).trans u2 fun b h => .inl (.inr h)).trans (st3.u (X := fun _ => False)) fun b h => h.elim).trans u4 fun b h => .inl (.inl (.inr h))
      · omega
end
end M3
end
-- part GF13
section
set_option maxRecDepth 100000
namespace M3
open PySem PySem.Calls PySem.Spec PyProof.Rows PySem.W PySem.Builtin PySem.Builtin.Str PySem.Builtin.Re
def letOf (N : Net) (k : Nat) : Nat := N.L.getD k 0
def alikeF (N : Net) : Nat → Nat → Nat → Bool
  | 0, i, j => letOf N i == letOf N j
  | d + 1, i, j => (letOf N i == letOf N j) && ((alikeF N d (wayOf N i).1 (wayOf N j).1 && alikeF N d (wayOf N i).2 (wayOf N j).2) || (alikeF N d (wayOf N i).1 (wayOf N j).2 && alikeF N d (wayOf N i).2 (wayOf N j).1))
theorem NetOk.way {N : Net} (h : NetOk N) {i : Nat} (hi : i < 4) : (wayOf N i).1 < 4 ∧ (wayOf N i).2 < 4 := by
  have : i < N.W.length := by rw [h.w4]; exact hi
  unfold wayOf
  rw [List.getD_eq_getElem?_getD, List.getElem?_eq_getElem this]
  exact h.wc _ (List.getElem_mem this)
theorem letters_at {N : Net} (h : NetOk N) {i : Nat} (hi : i < 4) : (N.L.map chD)[((i : Nat) : Int).toNat]? = some (chD (letOf N i)) := by
  have : i < N.L.length := by rw [h.l4]; exact hi
  unfold letOf
  rw [Int.toNat_natCast, List.getElem?_map, List.getD_eq_getElem?_getD, List.getElem?_eq_getElem this]; rfl
theorem ways_at {N : Net} (h : NetOk N) {i : Nat} (hi : i < 4) : (N.W.map wayD)[((i : Nat) : Int).toNat]? = some (wayD (wayOf N i)) := by
  have : i < N.W.length := by rw [h.w4]; exact hi
  unfold wayOf
  rw [Int.toNat_natCast, List.getElem?_map, List.getD_eq_getElem?_getD, List.getElem?_eq_getElem this]; rfl
theorem ch_ne (a b : Nat) : (sOf [a] != sOf [b]) = !(a == b) := by
  unfold bne; rw [sOf_beq]
  by_cases h : a = b
  · subst h; simp
  · have : (a == b) = false := by simpa using h
    simp [this, h]
section
variable {P : Program} {w' : World} {P' : Program} {loose : List Str} {mg mb : Str → Option Value}
set_option maxHeartbeats 16000000 in
theorem fn_alike {N : Net} (h : NetOk N) (n : Nat) : ∀ (d i j : Nat), d ≤ 10 → i < 4 → j < 4 → Fn (GG P w' P' loose mg mb) (n + d + 3) 285 [lettersD N, waysD N, .int (i : Int), .int (j : Int), .int (d : Int)] (.bool (alikeF N d i j)) := by
  intro d
  induction d with
  | zero =>
    intro i j hd hi hj
    refine Fn.of (ns := [q "letters", q "ways", q "one", q "other", q "depth"]) ⟨⟨_, rfl, rfl⟩, rfl, rfl, rfl, rfl, rfl, rfl, rfl, rfl, rfl⟩ ?_ (by decide) rfl rfl ?_
    · intro vs hv
      match vs, hv with
      | [v, u, w, x, y], _ => rfl
    by_cases hl : (letOf N i == letOf N j) = true
    · refine Ex.cons (Ex1.if_ (b := false) (Tr.of (Tr.cmp (Ev.sub rfl (Ev.name rfl rfl) (Ev.name rfl rfl) (Sub.list (by omega) (by omega) (letters_at h hi))) (Ev.sub rfl (Ev.name rfl rfl) (Ev.name rfl rfl) (Sub.list (by omega) (by omega) (letters_at h hj))) Cmp.ne_str rfl) (by rw [ch_ne, hl]; rfl)) Ex.nil) ?_
      refine Ex.leave (Ex1.if_ (b := true) (Tr.cmp (Ev.name rfl rfl) Ev.int_ Cmp.eq_int rfl) (Ex.leave (Ex1.ret (Ev.of Ev.bool_ (by unfold alikeF; rw [hl])))))
    · refine Ex.leave (Ex1.if_ (b := true) (Tr.of (Tr.cmp (Ev.sub rfl (Ev.name rfl rfl) (Ev.name rfl rfl) (Sub.list (by omega) (by omega) (letters_at h hi))) (Ev.sub rfl (Ev.name rfl rfl) (Ev.name rfl rfl) (Sub.list (by omega) (by omega) (letters_at h hj))) Cmp.ne_str rfl) (by rw [ch_ne, Bool.eq_false_iff.mpr hl]; rfl)) (Ex.leave (Ex1.ret (Ev.of Ev.bool_ (by unfold alikeF; rw [Bool.eq_false_iff.mpr hl])))))
  | succ d ih =>
    intro i j hd hi hj
    refine Fn.of (ns := [q "letters", q "ways", q "one", q "other", q "depth"]) ⟨⟨_, rfl, rfl⟩, rfl, rfl, rfl, rfl, rfl, rfl, rfl, rfl, rfl⟩ ?_ (by decide) rfl rfl ?_
    · intro vs hv
      match vs, hv with
      | [v, u, w, x, y], _ => rfl
    by_cases hl : (letOf N i == letOf N j) = true
    · have wi := h.way hi
      have wj := h.way hj
      have hdd : ((d + 1 : Nat) : Int) - 1 = (d : Int) := by omega
      refine Ex.cons (Ex1.if_ (b := false) (Tr.of (Tr.cmp (Ev.sub rfl (Ev.name rfl rfl) (Ev.name rfl rfl) (Sub.list (by omega) (by omega) (letters_at h hi))) (Ev.sub rfl (Ev.name rfl rfl) (Ev.name rfl rfl) (Sub.list (by omega) (by omega) (letters_at h hj))) Cmp.ne_str rfl) (by rw [ch_ne, hl]; rfl)) Ex.nil) ?_
      refine Ex.cons (Ex1.if_ (b := false) (Tr.of (Tr.cmp (Ev.name rfl rfl) Ev.int_ Cmp.eq_int rfl) (by rw [beq_eq_false_iff_ne]; omega)) Ex.nil) ?_
      refine Ex.cons (Ex1.unpack (xs := [(q "a", _), (q "b", _)]) (ds := dI [((wayOf N i).1 : Int), ((wayOf N i).2 : Int)]) (.inr rfl) rfl (by decide +kernel) (Ev.sub rfl (Ev.name rfl rfl) (Ev.name rfl rfl) (Sub.list (by omega) (by omega) (ways_at h hi))) (fun _ _ => rfl) (stores_at rfl)) ?_
      refine Ex.cons (Ex1.unpack (xs := [(q "c", _), (q "d", _)]) (ds := dI [((wayOf N j).1 : Int), ((wayOf N j).2 : Int)]) (.inr rfl) rfl (by decide +kernel) (Ev.sub rfl (Ev.name rfl rfl) (Ev.name rfl rfl) (Sub.list (by omega) (by omega) (ways_at h hj))) (fun _ _ => rfl) (stores_at rfl)) ?_
      by_cases hx : (alikeF N d (wayOf N i).1 (wayOf N j).1 && alikeF N d (wayOf N i).2 (wayOf N j).2) = true
      · refine Ex.leave (Ex1.if_ (b := true) (Tr.of (Tr.and2 (b := alikeF N d (wayOf N i).1 (wayOf N j).1) (c := alikeF N d (wayOf N i).1 (wayOf N j).1 && alikeF N d (wayOf N i).2 (wayOf N j).2) (Tr.val (Ev.call (v := .ref 285) (ds := [lettersD N, waysD N, .int (((wayOf N i).1 : Nat) : Int), .int (((wayOf N j).1 : Nat) : Int), .int (d : Int)]) ⟨by rfl, by rfl, .inl (by rfl)⟩ (Kpr.of_in rfl) (Evs.cons (Ev.name rfl rfl) (Evs.cons (Ev.name rfl rfl) (Evs.cons (Ev.name rfl rfl) (Evs.cons (Ev.name rfl rfl) (Evs.cons (Ev.of (Ev.bin (Ev.name rfl rfl) Ev.int_ Op2.sub_int) (by rw [hdd])) Evs.nil fun _ => rfl) fun _ => rfl) fun _ => rfl) fun _ => rfl) fun _ => rfl) rfl (ih _ _ (by omega) wi.1 wj.1)) Truth.bool (fun _ _ => rfl)) (fun hb => Tr.of (Tr.val (Ev.call (v := .ref 285) (ds := [lettersD N, waysD N, .int (((wayOf N i).2 : Nat) : Int), .int (((wayOf N j).2 : Nat) : Int), .int (d : Int)]) ⟨by rfl, by rfl, .inl (by rfl)⟩ (Kpr.of_in rfl) (Evs.cons (Ev.name rfl rfl) (Evs.cons (Ev.name rfl rfl) (Evs.cons (Ev.name rfl rfl) (Evs.cons (Ev.name rfl rfl) (Evs.cons (Ev.of (Ev.bin (Ev.name rfl rfl) Ev.int_ Op2.sub_int) (by rw [hdd])) Evs.nil fun _ => rfl) fun _ => rfl) fun _ => rfl) fun _ => rfl) fun _ => rfl) rfl (ih _ _ (by omega) wi.2 wj.2)) Truth.bool (fun _ _ => rfl)) (by rw [hb, Bool.true_and])) (fun hb => by rw [hb, Bool.false_and])) hx) (Ex.leave (Ex1.ret (Ev.of Ev.bool_ ?_))))
        rw [alikeF, hl, hx]; rfl
      · refine Ex.cons (Ex1.if_ (b := false) (Tr.of (Tr.and2 (b := alikeF N d (wayOf N i).1 (wayOf N j).1) (c := alikeF N d (wayOf N i).1 (wayOf N j).1 && alikeF N d (wayOf N i).2 (wayOf N j).2) (Tr.val (Ev.call (v := .ref 285) (ds := [lettersD N, waysD N, .int (((wayOf N i).1 : Nat) : Int), .int (((wayOf N j).1 : Nat) : Int), .int (d : Int)]) ⟨by rfl, by rfl, .inl (by rfl)⟩ (Kpr.of_in rfl) (Evs.cons (Ev.name rfl rfl) (Evs.cons (Ev.name rfl rfl) (Evs.cons (Ev.name rfl rfl) (Evs.cons (Ev.name rfl rfl) (Evs.cons (Ev.of (Ev.bin (Ev.name rfl rfl) Ev.int_ Op2.sub_int) (by rw [hdd])) Evs.nil fun _ => rfl) fun _ => rfl) fun _ => rfl) fun _ => rfl) fun _ => rfl) rfl (ih _ _ (by omega) wi.1 wj.1)) Truth.bool (fun _ _ => rfl)) (fun hb => Tr.of (Tr.val (Ev.call (v := .ref 285) (ds := [lettersD N, waysD N, .int (((wayOf N i).2 : Nat) : Int), .int (((wayOf N j).2 : Nat) : Int), .int (d : Int)]) ⟨by rfl, by rfl, .inl (by rfl)⟩ (Kpr.of_in rfl) (Evs.cons (Ev.name rfl rfl) (Evs.cons (Ev.name rfl rfl) (Evs.cons (Ev.name rfl rfl) (Evs.cons (Ev.name rfl rfl) (Evs.cons (Ev.of (Ev.bin (Ev.name rfl rfl) Ev.int_ Op2.sub_int) (by rw [hdd])) Evs.nil fun _ => rfl) fun _ => rfl) fun _ => rfl) fun _ => rfl) fun _ => rfl) rfl (ih _ _ (by omega) wi.2 wj.2)) Truth.bool (fun _ _ => rfl)) (by rw [hb, Bool.true_and])) (fun hb => by rw [hb, Bool.false_and])) (Bool.eq_false_iff.mpr hx)) Ex.nil) ?_
        refine Ex.leave (Ex1.ret (Ev.of (Ev.and2 (b := alikeF N d (wayOf N i).1 (wayOf N j).2) (c := alikeF N d (wayOf N i).1 (wayOf N j).2 && alikeF N d (wayOf N i).2 (wayOf N j).1) (Ev.call (v := .ref 285) (ds := [lettersD N, waysD N, .int (((wayOf N i).1 : Nat) : Int), .int (((wayOf N j).2 : Nat) : Int), .int (d : Int)]) ⟨by rfl, by rfl, .inl (by rfl)⟩ (Kpr.of_in rfl) (Evs.cons (Ev.name rfl rfl) (Evs.cons (Ev.name rfl rfl) (Evs.cons (Ev.name rfl rfl) (Evs.cons (Ev.name rfl rfl) (Evs.cons (Ev.of (Ev.bin (Ev.name rfl rfl) Ev.int_ Op2.sub_int) (by rw [hdd])) Evs.nil fun _ => rfl) fun _ => rfl) fun _ => rfl) fun _ => rfl) fun _ => rfl) rfl (ih _ _ (by omega) wi.1 wj.2)) (fun hb => Ev.of (Ev.call (v := .ref 285) (ds := [lettersD N, waysD N, .int (((wayOf N i).2 : Nat) : Int), .int (((wayOf N j).1 : Nat) : Int), .int (d : Int)]) ⟨by rfl, by rfl, .inl (by rfl)⟩ (Kpr.of_in rfl) (Evs.cons (Ev.name rfl rfl) (Evs.cons (Ev.name rfl rfl) (Evs.cons (Ev.name rfl rfl) (Evs.cons (Ev.name rfl rfl) (Evs.cons (Ev.of (Ev.bin (Ev.name rfl rfl) Ev.int_ Op2.sub_int) (by rw [hdd])) Evs.nil fun _ => rfl) fun _ => rfl) fun _ => rfl) fun _ => rfl) fun _ => rfl) rfl (ih _ _ (by omega) wi.2 wj.1)) (by rw [hb, Bool.true_and])) (fun hb => by rw [hb, Bool.false_and])) ?_))
        rw [alikeF, hl, Bool.eq_false_iff.mpr hx, Bool.true_and, Bool.false_or]
    · refine Ex.leave (Ex1.if_ (b := true) (Tr.of (Tr.cmp (Ev.sub rfl (Ev.name rfl rfl) (Ev.name rfl rfl) (Sub.list (by omega) (by omega) (letters_at h hi))) (Ev.sub rfl (Ev.name rfl rfl) (Ev.name rfl rfl) (Sub.list (by omega) (by omega) (letters_at h hj))) Cmp.ne_str rfl) (by rw [ch_ne, Bool.eq_false_iff.mpr hl]; rfl)) (Ex.leave (Ex1.ret (Ev.of Ev.bool_ (by unfold alikeF; rw [Bool.eq_false_iff.mpr hl, Bool.false_and])))))
end
end M3
end
-- part GF14
section
set_option maxRecDepth 100000
namespace M3
open PySem PySem.Calls PySem.Spec PyProof.Rows PySem.W PySem.Builtin PySem.Builtin.Str PySem.Builtin.Re
/-- lists of rows in order -/
def ltR (a b : Rows) : Bool := ltS (a.map sOf) (b.map sOf)
def rowOf (N : Net) (t k : Nat) : List Nat := List.replicate t 46 ++ [letOf N k]
/-- the tree of all ways, row by row -/
def rowsF (N : Net) : Nat → Nat → Nat → Rows
  | 0, k, t => [rowOf N t k]
  | d + 1, k, t => rowOf N t k :: ((two' ltR (rowsF N d (wayOf N k).1 (t + 1)) (rowsF N d (wayOf N k).2 (t + 1))).1 ++ (two' ltR (rowsF N d (wayOf N k).1 (t + 1)) (rowsF N d (wayOf N k).2 (t + 1))).2)
theorem two_len {α : Type} {lt : List α → List α → Bool} {x y : List α} : (two' lt x y).1.length + (two' lt x y).2.length = x.length + y.length := by
  unfold two'; split <;> simp <;> omega
theorem rowsF_len (N : Net) : ∀ d k t, (rowsF N d k t).length = mOf d
  | 0, _, _ => rfl
  | d + 1, k, t => by
    rw [rowsF, List.length_cons, List.length_append, two_len, rowsF_len N d, rowsF_len N d, mOf]; omega
def rD (r : Rows) : List D := dS (r.map sOf)
theorem rD_len (r : Rows) : (rD r).length = r.length := by simp [rD, dS]
theorem mOf_le5 {k : Nat} (h : k ≤ 5) : mOf k ≤ 63 := by
  have : k = 0 ∨ k = 1 ∨ k = 2 ∨ k = 3 ∨ k = 4 ∨ k = 5 := by omega
  rcases this with rfl | rfl | rfl | rfl | rfl | rfl <;> decide
theorem dSs_map {α : Type} (f : α → List Str) (l : List α) : dSs (l.map f) = l.map fun a => D.list (dS (f a)) := by
  unfold dSs; rw [List.map_map]; rfl
section
variable {P : Program} {w' : World} {P' : Program} {loose : List Str} {mg mb : Str → Option Value}
set_option maxHeartbeats 16000000 in
theorem fn_rows {N : Net} (h : NetOk N) (n : Nat) : ∀ (d k t : Nat), d ≤ 5 → k < 4 → t + d ≤ 900 → FnL (GG P w' P' loose mg mb) (n + d + 3) 278 [lettersD N, waysD N, .int (k : Int), .int (d : Int), .int (t : Int)] (rD (rowsF N d k t)) := by
  intro d
  have row : ∀ (n' : Nat) {ρ : Rho} {sc : Scope} {p1 p2 p3 p4 p5 p6 : Pos} {k t : Nat}, k < 4 → t ≤ 900 → ρ.lookup (q "letters") = some (.fz (lettersD N)) → ρ.lookup (q "place") = some (.fz (.int (k : Int))) → ρ.lookup (q "dots") = some (.fz (.int (t : Int))) →
      Ev (GG P w' P' loose mg mb) n' sc ρ (.BinOp (.BinOp (.Constant (.str (q ".")) 0 p1) .Mult (.Name (q "dots") p2) p3) .Add (.Subscript (.Name (q "letters") p4) (.Name (q "place") p5) p6) p1) (.str (sOf (rowOf N t k))) := fun n' => by
    intro ρ sc p1 p2 p3 p4 p5 p6 k t hk ht e1 e2 e3
    refine Ev.of (Ev.bin (Ev.bin Ev.str_ (Ev.name e3 rfl) (Op2.mul_str (mul_ok 46 (by omega) (by omega)))) (Ev.sub rfl (Ev.name e1 rfl) (Ev.name e2 rfl) (Sub.list (by omega) (by omega) (letters_at h hk))) (Op2.add_str ?_)) ?_
    · rw [show Txt.mul (q ".") (t : Int) = _ from mul_char 46 t, sOf_len, sOf_len, sizeLine_eq]; simp; omega
    · rw [show Txt.mul (q ".") (t : Int) = _ from mul_char 46 t, sOf_append, Int.toNat_natCast]; rfl
  induction d with
  | zero =>
    intro k t hd hk ht
    refine FnL.of (ns := [q "letters", q "ways", q "place", q "depth", q "dots"]) ⟨⟨_, rfl, rfl⟩, rfl, rfl, rfl, rfl, rfl, rfl, rfl, rfl, rfl⟩ ?_ (by decide) rfl rfl ?_
    · intro vs hv
      match vs, hv with
      | [v, u, w, x, y], _ => rfl
    refine Ex.cons (Ex1.assign (d := .str (sOf (rowOf N t k))) rfl ?_ (fun _ _ => rfl)) ?_
    · exact row _ hk (by omega) rfl rfl rfl
    refine Ex.leave (Ex1.if_ (b := true) (Tr.cmp (Ev.name rfl rfl) Ev.int_ Cmp.eq_int rfl) (Ex.leave (Ex1.retL (EvL.disp (Evs.cons (Ev.name rfl rfl) Evs.nil fun _ => rfl) (by show 1 ≤ 1000; decide)))))
  | succ d ih =>
    intro k t hd hk ht
    refine FnL.of (ns := [q "letters", q "ways", q "place", q "depth", q "dots"]) ⟨⟨_, rfl, rfl⟩, rfl, rfl, rfl, rfl, rfl, rfl, rfl, rfl, rfl⟩ ?_ (by decide) rfl rfl ?_
    · intro vs hv
      match vs, hv with
      | [v, u, w, x, y], _ => rfl
    have wk := h.way hk
    have hm := mOf_le5 (k := d) (by omega)
    have hml : (two' ltR (rowsF N d (wayOf N k).1 (t + 1)) (rowsF N d (wayOf N k).2 (t + 1))).1.length + (two' ltR (rowsF N d (wayOf N k).1 (t + 1)) (rowsF N d (wayOf N k).2 (t + 1))).2.length ≤ 126 := by
      rw [two_len, rowsF_len, rowsF_len]; omega
    have hdd : ((d + 1 : Nat) : Int) - 1 = (d : Int) := by omega
    refine Ex.cons (Ex1.assign (d := .str (sOf (rowOf N t k))) rfl ?_ (fun _ _ => rfl)) ?_
    · exact row _ hk (by omega) rfl rfl rfl
    refine Ex.cons (Ex1.if_ (b := false) (Tr.of (Tr.cmp (Ev.name rfl rfl) Ev.int_ Cmp.eq_int rfl) (by rw [beq_eq_false_iff_ne]; omega)) Ex.nil) ?_
    have e2 : dSs (sortK ltS [] [(rowsF N d (wayOf N k).1 (t + 1)).map sOf, (rowsF N d (wayOf N k).2 (t + 1)).map sOf]) = [.list (rD (two' ltR (rowsF N d (wayOf N k).1 (t + 1)) (rowsF N d (wayOf N k).2 (t + 1))).1), .list (rD (two' ltR (rowsF N d (wayOf N k).1 (t + 1)) (rowsF N d (wayOf N k).2 (t + 1))).2)] := by
      rw [sortK2]
      unfold two' ltR
      split
      · rename_i hc; simp only [hc, if_true]; rfl
      · rename_i hc; simp only [hc, if_false]; rfl
    refine Ex.cons (Ex1.unpack (xs := [(q "near", _), (q "far", _)]) (ds := [.list (rD (two' ltR (rowsF N d (wayOf N k).1 (t + 1)) (rowsF N d (wayOf N k).2 (t + 1))).1), .list (rD (two' ltR (rowsF N d (wayOf N k).1 (t + 1)) (rowsF N d (wayOf N k).2 (t + 1))).2)]) (.inr rfl) rfl (by decide +kernel) (EvL.ev (EvL.of (EvL.call (v := .builtin "sorted") (ds := [.list (dSs [(rowsF N d (wayOf N k).1 (t + 1)).map sOf, (rowsF N d (wayOf N k).2 (t + 1)).map sOf])]) ⟨by rfl, by rfl, .inr ⟨by rfl, by rfl, by decide⟩⟩ Kpr.builtin (Evs.cons (EvL.ev (EvL.comp (tgs := [q "end"]) (by decide +kernel) unroll0 (fun _ _ => rfl) (It.list rfl (Ev.sub rfl (Ev.name rfl rfl) (Ev.name rfl rfl) (Sub.list (by omega) (by omega) (ways_at h hk)))) (Turns.of (Turns.one (e := fun (i : Nat) => D.int (i : Int)) (f := fun i => D.list (rD (rowsF N d i (t + 1)))) [(wayOf N k).1, (wayOf N k).2] fun i hi => ?_) rfl) (by show 2 ≤ 100000; decide))) Evs.nil (fun _ => rfl)) rfl (CvL.sortedLists (k := mOf d) (by show 2 ≤ 2; decide) (by show 2 < 64; decide) ?_)) e2)) (fun _ _ => rfl) (stores_at rfl)) ?_
    · have hi4 : i < 4 := by
        simp only [List.mem_cons, List.not_mem_nil, or_false] at hi
        rcases hi with rfl | rfl
        · exact wk.1
        · exact wk.2
      refine Turn.t0 (Tg.name rfl (by decide)) (Rho.sub_set (by rfl)) (EvL.ev (EvL.call (v := .ref 278) (ds := [lettersD N, waysD N, .int ((i : Nat) : Int), .int (d : Int), .int ((t + 1 : Nat) : Int)]) ⟨by rfl, by rfl, .inl (by rfl)⟩ (Kpr.of_in rfl) (Evs.cons (Ev.name rfl rfl) (Evs.cons (Ev.name rfl rfl) (Evs.cons (Ev.name rfl rfl) (Evs.cons (Ev.of (Ev.bin (Ev.name rfl rfl) Ev.int_ Op2.sub_int) (by rw [hdd])) (Evs.cons (Ev.bin (Ev.name rfl rfl) Ev.int_ Op2.add_int) Evs.nil fun _ => rfl) fun _ => rfl) fun _ => rfl) fun _ => rfl) fun _ => rfl) rfl (ih i (t + 1) (by omega) hi4 (by omega)).cv))
    · intro x hx
      simp only [List.mem_cons, List.not_mem_nil, or_false] at hx
      rcases hx with rfl | rfl <;> rw [List.length_map, rowsF_len]
    · refine Ex.leave (Ex1.retL (EvL.of (EvL.add (EvL.ev (EvL.add (l := [D.str (sOf (rowOf N t k))]) (EvL.ev (EvL.disp (ds := [D.str (sOf (rowOf N t k))]) (Evs.cons (Ev.name rfl rfl) Evs.nil fun _ => rfl) (by show 1 ≤ 1000; decide))) (Ev.name rfl rfl) ?_)) (Ev.name rfl rfl) ?_) ?_))
      · rw [rD_len]; show 1 + _ ≤ _; omega
      · rw [List.length_append, rD_len, rD_len]; show (1 + _) + _ ≤ _; omega
      · rw [rowsF]
        simp only [rD, dS, List.map_cons, List.map_append, List.cons_append, List.nil_append]
end
end M3
end
-- part GF15
section
set_option maxRecDepth 100000
namespace M3
open PySem PySem.Calls PySem.Spec PyProof.Rows PySem.W PySem.Builtin PySem.Builtin.Str PySem.Builtin.Re
def rowL (p : Nat) : List Nat := List.replicate p 32 ++ [9]
theorem leadL_flat (ps : List Nat) : leadL ps = (ps.map rowL).flatten := by
  unfold leadL; rw [List.flatMap_def]; rfl
def leadD (ps : List Nat) : D := wsD 100 (sOf (leadL ps))
theorem leadD_ws (ps : List Nat) : wsRun ((sOf (leadL ps)).cps.toList) = ⟨cnt ps, 0, ((leadL ps).length : Int), (ps.length : Int)⟩ := wsRun_lead ps
/-- the classes of the ends of k's ways -/
def endsOf (N : Net) (cs : List Nat) (k : Nat) : List Nat := [cs.getD (wayOf N k).1 0, cs.getD (wayOf N k).2 0]
/-- two places stay in one class -/
def stay (N : Net) (cs : List Nat) (i j : Nat) : Bool := (cs.getD i 0 == cs.getD j 0) && (cnt (endsOf N cs i) == cnt (endsOf N cs j))
def likeOf (N : Net) (cs firsts : List Nat) (k : Nat) : List Nat := (firsts.zipIdx.filter fun p => stay N cs p.1 k).map (·.2)
def refStep (N : Net) (cs : List Nat) (st : List Nat × List Nat) (k : Nat) : List Nat × List Nat :=
  (if (likeOf N cs st.1 k).isEmpty then st.1 ++ [k] else st.1, st.2 ++ [(likeOf N cs st.1 k).headD st.1.length])
def refinedF (N : Net) (cs : List Nat) : List Nat := ((List.range' 0 4).foldl (refStep N cs) ([], [])).2
def nI (l : List Nat) : List D := dI (l.map fun (i : Nat) => (i : Int))
structure ClsOk (cs : List Nat) : Prop where
  l4 : cs.length = 4
  c : ∀ c ∈ cs, c < 4
theorem ClsOk.at_ {cs : List Nat} (h : ClsOk cs) {i : Nat} (hi : i < 4) : cs.getD i 0 < 4 := by
  have : i < cs.length := by rw [h.l4]; exact hi
  rw [List.getD_eq_getElem?_getD, List.getElem?_eq_getElem this]
  exact h.c _ (List.getElem_mem this)
theorem nI_get {l : List Nat} {i : Nat} (hi : i < l.length) : (nI l)[((i : Nat) : Int).toNat]? = some (.int ((l.getD i 0 : Nat) : Int)) := by
  unfold nI dI
  rw [Int.toNat_natCast, List.getElem?_map, List.getElem?_map, List.getD_eq_getElem?_getD, List.getElem?_eq_getElem hi]; rfl
theorem nI_length (l : List Nat) : (nI l).length = l.length := by simp [nI, dI]
theorem enumD_nI : ∀ (l : List Nat) (k : Nat), enumD (k : Int) (nI l) = (l.zipIdx k).map fun p => .tup [.int (p.2 : Int), .int (p.1 : Int)]
  | [], k => rfl
  | a :: l, k => by
    show .tup [.int (k : Int), .int (a : Int)] :: enumD ((k : Int) + 1) (nI l) = _
    rw [show (k : Int) + 1 = ((k + 1 : Nat) : Int) by omega, enumD_nI l (k + 1)]; rfl
theorem flatMap_ifN {α : Type} (p : α → Bool) (f : α → D) : ∀ l : List α, (l.flatMap fun x => if p x then [f x] else []) = (l.filter p).map f
  | [] => rfl
  | x :: l => by
    rw [List.flatMap_cons, flatMap_ifN p f l]
    by_cases h : p x = true
    · simp [h]
    · simp [h]
theorem likeOf_lt {N : Net} {cs firsts : List Nat} {k i : Nat} (h : i ∈ likeOf N cs firsts k) : i < firsts.length := by
  unfold likeOf at h
  rw [List.mem_map] at h
  obtain ⟨⟨a, j⟩, hm, rfl⟩ := h
  have := (List.mem_filter.mp hm).1
  have := List.snd_lt_of_mem_zipIdx this
  simpa using this
theorem nI_append (l : List Nat) (x : Nat) : nI (l ++ [x]) = nI l ++ [D.int (x : Int)] := by simp [nI, dI]
theorem list4 {α : Type} (l : List α) (d : α) (h : l.length = 4) : l = (List.range 4).map fun k => l.getD k d := by
  match l, h with
  | [a, b, c, e], _ => rfl
theorem ways_eq {N : Net} (h : NetOk N) : N.W.map wayD = (List.range 4).map fun k => wayD (wayOf N k) := by
  have := list4 N.W (0, 0) h.w4
  conv => lhs; rw [this]
  rw [List.map_map]; rfl
structure RefOk (k : Nat) (st : List Nat × List Nat) : Prop where
  fl : st.1.length ≤ k
  f4 : ∀ i ∈ st.1, i < 4
  rl : st.2.length = k
section
variable {P : Program} {w' : World} {P' : Program} {loose : List Str} {mg mb : Str → Option Value} {n : Nat}
theorem fn_equal' {ps qs : List Nat} : Fn (GG P w' P' loose mg mb) (n + 2) 76 [leadD ps, leadD qs] (.bool (cnt ps == cnt qs)) := by
  have := fn_equal (P := P) (w' := w') (P' := P') (loose := loose) (mg := mg) (mb := mb) (n := n) (x := sOf (leadL ps)) (y := sOf (leadL qs))
  rw [leadD_ws, leadD_ws] at this
  simp only [beq_self_eq_true, Bool.and_true] at this
  exact this
def rhoR (N : Net) (cs : List Nat) (st : List Nat × List Nat) : Rho := [(q "classes", .fz (.list (nI cs))), (q "ways", .fz (waysD N)), (q "leads", .fz (.list ((List.range 4).map fun k => leadD (endsOf N cs k)))), (q "firsts", .own (nI st.1)), (q "refined", .own (nI st.2))]
set_option maxHeartbeats 16000000 in
theorem fn_refined {N : Net} (h : NetOk N) {cs : List Nat} (hc : ClsOk cs) : Fn (GG P w' P' loose mg mb) (n + 4) 273 [.list (nI cs), waysD N] (.list (nI (refinedF N cs))) := by
  refine Fn.of (ns := [q "classes", q "ways"]) ⟨⟨_, rfl, rfl⟩, rfl, rfl, rfl, rfl, rfl, rfl, rfl, rfl, rfl⟩ ?_ (by decide) rfl rfl ?_
  · intro vs hv
    match vs, hv with
    | [v, u], _ => rfl
  have hlen : ∀ k, k < 4 → (leadL (endsOf N cs k)).length ≤ 62 := fun k hk => by
    have wk := h.way hk
    have := lead_len (ps := endsOf N cs k) (fun p hp => by
      unfold endsOf at hp
      simp only [List.mem_cons, List.not_mem_nil, or_false] at hp
      have h1 := hc.at_ wk.1
      have h2 := hc.at_ wk.2
      rcases hp with rfl | rfl <;> omega)
    exact this
  refine Ex.cons (Ex1.assignL (l := (List.range 4).map fun k => leadD (endsOf N cs k)) rfl (EvL.comp (tgs := [q "ends"]) (by decide +kernel) unroll0 (fun _ _ => rfl) (It.list (ds := (List.range 4).map fun k => wayD (wayOf N k)) rfl (Ev.of (Ev.name rfl rfl) (congrArg D.list (ways_eq h)))) (Turns.of (Turns.one (e := fun k => wayD (wayOf N k)) (f := fun k => leadD (endsOf N cs k)) (List.range 4) fun k hk => ?_) rfl) (by show 4 ≤ 100000; decide)) (swaps_at rfl)) ?_
  · have hk4 : k < 4 := List.mem_range.mp hk
    have wk := h.way hk4
    have hll := hlen k hk4
    have c1 := hc.at_ wk.1
    have c2 := hc.at_ wk.2
    refine Turn.t0 (Tg.name rfl (by decide)) (Rho.sub_set (by rfl)) (Ev.call (v := .ref 100) (ds := [.str (sOf (leadL (endsOf N cs k)))]) ⟨by rfl, by rfl, .inl (by rfl)⟩ (Kpr.of_in rfl) (Evs.cons (Ev.of (Ev.meth (b := .str (q "")) (ds := [.list (dS (((endsOf N cs k).map rowL).map sOf))]) (fun env => ⟨_, rfl⟩) Ev.str_ (Mt.str PySem.F.plainAttrs_str PySem.F.slot_str_join PySem.F.type_str_join (Cv.join ?_)) (Evs.cons (EvL.ev (EvL.comp (tgs := [q "end"]) (by decide +kernel) unroll0 (fun _ _ => rfl) (It.list rfl (Ev.name rfl rfl)) (Turns.of (Turns.one (e := fun (i : Nat) => D.int (i : Int)) (f := fun i => D.str (sOf (rowL (cs.getD i 0)))) [(wayOf N k).1, (wayOf N k).2] fun i hi => ?_) rfl) (by show 2 ≤ 100000; decide))) Evs.nil (fun _ => rfl)) rfl) ?_) Evs.nil (fun _ => rfl)) rfl (fn_ws ?_ ?_))
    · rw [sum_len, flat_sOf, ← leadL_flat]
      show _ + 2 * 0 ≤ 16777216
      omega
    · have hi4 : i < 4 := by
        simp only [List.mem_cons, List.not_mem_nil, or_false] at hi
        rcases hi with rfl | rfl
        · exact wk.1
        · exact wk.2
      have ci := hc.at_ hi4
      refine Turn.t0 (Tg.name rfl (by decide)) (Rho.sub_set (by rfl)) (Ev.of (Ev.bin (Ev.bin Ev.str_ (Ev.sub rfl (Ev.name rfl rfl) (Ev.name rfl rfl) (Sub.list (by omega) (by omega) (nI_get (by rw [hc.l4]; exact hi4)))) (Op2.mul_str (mul_ok 32 (by omega) (by omega)))) Ev.str_ (Op2.add_str ?_)) ?_)
      · rw [show Txt.mul (q " ") ((cs.getD i 0 : Nat) : Int) = _ from mul_char 32 _, sOf_len, sizeLine_eq, List.length_replicate, Int.toNat_natCast]; show _ + 1 ≤ _; omega
      · rw [show Txt.mul (q " ") ((cs.getD i 0 : Nat) : Int) = _ from mul_char 32 _, Int.toNat_natCast]
        show D.str (sOf _ ++ sOf [9]) = _
        rw [sOf_append]; rfl
    · rw [show q "" = ⟨#[]⟩ from rfl, Txt_join_nil, flat_sOf, ← leadL_flat]
    · intro c hc; exact lead_mem hc
    · show (leadL (endsOf N cs k)).length ≤ 1000; omega
  refine Ex.freeze (x := q "leads") rfl ?_
  refine Ex.cons (Ex1.assignL (l := []) rfl (EvL.disp Evs.nil (by decide)) (fun env he => rfl)) ?_
  refine Ex.cons (Ex1.assignL (l := []) rfl (EvL.disp Evs.nil (by decide)) (fun env he => rfl)) ?_
  refine Ex.cons (Ex1.for_ (tgs := [q "k"]) (out := .nx (rhoR N cs ((List.range' 0 4).foldl (refStep N cs) ([], [])))) (fun _ _ => rfl) (It.range1' (k := 4) rfl ⟨by rfl, by rfl, .inr ⟨by rfl, by rfl, by decide⟩⟩ (by decide) Ev.int_ rfl (fun _ => rfl)) ?_) ?_
  · refine ForTo.count (refStep N cs) (rhoR N cs) RefOk (M := 4) (fun k st hk I => ⟨?_, _, Tg.name rfl (by decide), ?_⟩) 4 0 ([], []) (by decide) ⟨Nat.le_refl _, (fun _ h => nomatch h), rfl⟩
    · refine ⟨?_, fun i hi => ?_, ?_⟩
      · unfold refStep; dsimp only; have := I.fl; split <;> simp <;> omega
      · unfold refStep at hi; dsimp only at hi
        split at hi
        · rcases List.mem_append.mp hi with h' | h'
          · exact I.f4 i h'
          · rw [List.mem_singleton.mp h']; exact hk
        · exact I.f4 i hi
      · unfold refStep; dsimp only; rw [List.length_append, I.rl]; rfl
    · have f4 := I.f4
      have fl := I.fl
      have lk : ∀ i, i < 4 → ((List.range 4).map fun k => leadD (endsOf N cs k))[((i : Nat) : Int).toNat]? = some (leadD (endsOf N cs i)) := fun i hi => by
        rw [Int.toNat_natCast, List.getElem?_map, List.getElem?_range hi]; rfl
      have hlk : (likeOf N cs st.1 k).length ≤ 100000 := by
        unfold likeOf; rw [List.length_map]
        refine Nat.le_trans (List.length_filter_le _ _) ?_
        rw [List.length_zipIdx]; omega
      refine Ex.cons (Ex1.assignComp (outs := nI (likeOf N cs st.1 k)) rfl (swaps_at rfl) (tgs := [q "i", q "first"]) (by decide +kernel) unroll1 (fun _ _ => rfl) (own := true) (ds := (st.1.zipIdx 0).map fun p => .tup [.int (p.2 : Int), .int (p.1 : Int)]) (by rw [← enumD_nI st.1 0]; exact It.enumOwn ⟨by rfl, by rfl, .inr ⟨by rfl, by rfl, by decide⟩⟩ rfl rfl) (Turns.of (Turns.flat (e := fun p : Nat × Nat => .tup [.int (p.2 : Int), .int (p.1 : Int)]) (f := fun p => if stay N cs p.1 k then [D.int (p.2 : Int)] else []) (st.1.zipIdx 0) fun p hp => ?_) ?_) (by rw [nI_length]; exact hlk)) ?_
      · have hp4 : p.1 < 4 := f4 _ (List.fst_mem_of_mem_zipIdx hp)
        refine Turn.t1 (Tg.tup2 (.inl rfl) (by decide)) (fun y t e => Rho.sub_set rfl y t (Rho.sub_set rfl y t e)) ?_ fun _ => Ev.name rfl rfl
        refine Tr.and2 (b := cs.getD p.1 0 == cs.getD k 0) (Tr.of (Tr.cmp (Ev.sub rfl (Ev.name rfl rfl) (Ev.name rfl rfl) (Sub.list (by omega) (by omega) (nI_get (by rw [hc.l4]; exact hp4)))) (Ev.sub rfl (Ev.name rfl rfl) (Ev.name rfl rfl) (Sub.list (by omega) (by omega) (nI_get (by rw [hc.l4]; exact hk)))) Cmp.eq_int rfl) ?_) (fun hb => Tr.of (Tr.val (Ev.meth (b := leadD (endsOf N cs p.1)) (ds := [leadD (endsOf N cs k)]) (fun env => ⟨_, rfl⟩) (Ev.sub rfl (Ev.name rfl rfl) (Ev.name rfl rfl) (Sub.list (by omega) (by omega) (lk _ hp4))) (Mt.inst (f := 76) (by rfl) rfl rfl (Kpr.of_in rfl) fn_equal') (Evs.cons (Ev.sub rfl (Ev.name rfl rfl) (Ev.name rfl rfl) (Sub.list (by omega) (by omega) (lk _ hk))) Evs.nil (fun _ => rfl)) rfl) Truth.bool (fun _ _ => rfl)) ?_) (fun hb => ?_)
        · rw [Bool.eq_iff_iff]; simp; omega
        · unfold stay; rw [hb, Bool.true_and]
        · unfold stay; rw [hb, Bool.false_and]
      · rw [flatMap_ifN]; unfold likeOf nI dI; rw [List.map_map, List.map_map]; rfl
      · refine Ex.freeze (x := q "like") rfl ?_
        have er : refStep N cs st k = (if (likeOf N cs st.1 k).isEmpty then st.1 ++ [k] else st.1, st.2 ++ [(likeOf N cs st.1 k).headD st.1.length]) := rfl
        rw [er]
        have r2 : (nI st.2).length ≤ 100000 := by rw [nI_length, I.rl]; omega
        have r1 : (nI st.1).length ≤ 100000 := by rw [nI_length]; omega
        clear er lk
        generalize likeOf N cs st.1 k = L at hlk ⊢
        cases L with
        | nil =>
          refine Ex.cons (Ex1.append (l := nI st.2) (d := .int ((st.1.length : Nat) : Int)) rfl rfl (fun env => ⟨_, rfl⟩) (Ev.ifexp (b := false) (Tr.val (Ev.name rfl rfl) (Truth.list (by decide)) (fun _ _ => rfl)) (fun h => nomatch h) (fun _ => Ev.unown (x := q "firsts") (l := nI st.1) rfl (Ev.of (Ev.call (v := .builtin "len") ⟨by rfl, by rfl, .inr ⟨by rfl, by rfl, by decide⟩⟩ Kpr.builtin (Evs.cons (Ev.name rfl rfl) Evs.nil (fun env => rfl)) rfl (Cv.len (by omega))) (by rw [nI_length])) rfl)) rfl (fun _ => rfl) r2 (inter_at rfl) (fun _ => rfl)) ?_
          refine Ex.cons (Ex1.if_ (b := true) (Tr.cmp (Ev.name rfl rfl) (EvL.ev (EvL.disp Evs.nil (by decide))) Cmp.eq_nil rfl) (Ex.cons (Ex1.append (l := nI st.1) (d := .int ((k : Nat) : Int)) rfl rfl (fun env => ⟨_, rfl⟩) (Ev.name rfl rfl) rfl (fun _ => rfl) r1 (inter_at rfl) (fun _ => rfl)) Ex.nil)) ?_
          refine Ex.weak (sub_of ?_) Ex.nil
          intro p hp
          show _ = some p.2
          simp only [rhoR, List.mem_cons, List.not_mem_nil, or_false, List.isEmpty_nil, if_true, List.headD_nil, nI_append] at hp
          rcases hp with rfl | rfl | rfl | rfl | rfl <;> rfl
        | cons a l =>
          refine Ex.cons (Ex1.append (l := nI st.2) (d := .int ((a : Nat) : Int)) rfl rfl (fun env => ⟨_, rfl⟩) (Ev.ifexp (b := true) (Tr.val (Ev.name rfl rfl) (Truth.list ?_) (fun _ _ => rfl)) (fun _ => Ev.sub rfl (Ev.name rfl rfl) Ev.int_ (Sub.list (by decide) (by decide) rfl)) (fun h => nomatch h)) rfl (fun _ => rfl) r2 (inter_at rfl) (fun _ => rfl)) ?_
          · rw [nI_length]; omega
          refine Ex.cons (Ex1.if_ (b := false) (Tr.cmp (Ev.name rfl rfl) (EvL.ev (EvL.disp Evs.nil (by decide))) Cmp.eq_nil rfl) Ex.nil) ?_
          refine Ex.weak (sub_of ?_) Ex.nil
          intro p hp
          show _ = some p.2
          simp only [rhoR, List.mem_cons, List.not_mem_nil, or_false, List.isEmpty_cons, if_false, Bool.false_eq_true, List.headD_cons, nI_append] at hp
          rcases hp with rfl | rfl | rfl | rfl | rfl <;> rfl
  · refine Ex.freeze (x := q "refined") rfl ?_
    exact Ex.leave (Ex1.ret (Ev.name rfl rfl))
end
end M3
end
-- part GQ1
section
set_option maxRecDepth 100000
namespace M3
open PySem PySem.Builtin PySem.Builtin.Str PySem.StrLaws
/-- the letters of the tree of all ways, row by row -/
def ltN (a b : List Nat) : Bool := decide (a < b)
def wd (N : Net) : Nat → Nat → List Nat
  | 0, k => [letOf N k]
  | d + 1, k => letOf N k :: ((two' ltN (wd N d (wayOf N k).1) (wd N d (wayOf N k).2)).1 ++ (two' ltN (wd N d (wayOf N k).1) (wd N d (wayOf N k).2)).2)
def sk : Nat → Nat → List Nat
  | 0, t => [t]
  | d + 1, t => t :: (sk d (t + 1) ++ sk d (t + 1))
def rz (s w : List Nat) : Rows := List.zipWith (fun t c => List.replicate t 46 ++ [c]) s w
theorem sk_len : ∀ d t, (sk d t).length = mOf d
  | 0, _ => rfl
  | d + 1, t => by rw [sk, List.length_cons, List.length_append, sk_len d, mOf]; omega
theorem wd_len (N : Net) : ∀ d k, (wd N d k).length = mOf d
  | 0, _ => rfl
  | d + 1, k => by rw [wd, List.length_cons, List.length_append, two_len, wd_len N d, wd_len N d, mOf]; omega
theorem sk_succ : ∀ d t, sk d (t + 1) = (sk d t).map (· + 1)
  | 0, _ => rfl
  | d + 1, t => by rw [sk, sk, List.map_cons, List.map_append, sk_succ d (t + 1)]
theorem app_lt : ∀ (p a b : List Nat), p ++ a < p ++ b ↔ a < b
  | [], a, b => Iff.rfl
  | c :: p, a, b => by
    rw [List.cons_append, List.cons_append, List.cons_lt_cons_iff, app_lt p a b]
    constructor
    · rintro (h | ⟨_, h⟩)
      · omega
      · exact h
    · exact fun h => .inr ⟨rfl, h⟩
theorem ltR_rz : ∀ (s a b : List Nat), a.length = s.length → b.length = s.length → ltR (rz s a) (rz s b) = ltN a b
  | [], [], [], _, _ => by decide
  | t :: s, x :: a, y :: b, ha, hb => by
    have ih := ltR_rz s a b (by simpa using ha) (by simpa using hb)
    unfold ltR ltN at *
    show ltS (sOf (List.replicate t 46 ++ [x]) :: (rz s a).map sOf) (sOf (List.replicate t 46 ++ [y]) :: (rz s b).map sOf) = _
    unfold ltS
    rw [sOf_beq, ih]
    by_cases h : x = y
    · subst h
      simp only [beq_self_eq_true, if_true]
      apply decide_eq_decide.mpr
      rw [List.cons_lt_cons_iff]
      constructor
      · exact fun h => .inr ⟨rfl, h⟩
      · rintro (h | ⟨_, h⟩)
        · omega
        · exact h
    · have hn : (List.replicate t 46 ++ [x] == List.replicate t 46 ++ [y]) = false := by
        rw [beq_eq_false_iff_ne]
        intro e
        have := List.append_cancel_left e
        simp at this; exact h this
      rw [hn, if_neg (by decide)]
      show decide (List.replicate t 46 ++ [x] < List.replicate t 46 ++ [y]) = _
      apply decide_eq_decide.mpr
      rw [app_lt, List.cons_lt_cons_iff, List.cons_lt_cons_iff]
      constructor
      · rintro (h' | ⟨h', _⟩)
        · exact .inl h'
        · exact absurd h' h
      · rintro (h' | ⟨h', _⟩)
        · exact .inl h'
        · exact absurd h' h
theorem jn_cons (r : List Nat) {rs : Rows} (h : rs ≠ []) : jn (r :: rs) = r ++ 13 :: 10 :: jn rs := by
  cases rs with
  | nil => exact absurd rfl h
  | cons r' rs => rfl
theorem ltJ_rz : ∀ (s a b : List Nat), a.length = s.length → b.length = s.length → ltJ (rz s a) (rz s b) = ltN a b
  | [], [], [], _, _ => by decide
  | [t], [x], [y], _, _ => by
    unfold ltJ ltN
    show decide (List.replicate t 46 ++ [x] < List.replicate t 46 ++ [y]) = _
    apply decide_eq_decide.mpr
    rw [app_lt]
  | t :: t' :: s, x :: x' :: a, y :: y' :: b, ha, hb => by
    have ih := ltJ_rz (t' :: s) (x' :: a) (y' :: b) (by simpa using ha) (by simpa using hb)
    unfold ltJ ltN at *
    apply decide_eq_decide.mpr
    have ih' := decide_eq_decide.mp ih
    show jn ((List.replicate t 46 ++ [x]) :: rz (t' :: s) (x' :: a)) < jn ((List.replicate t 46 ++ [y]) :: rz (t' :: s) (y' :: b)) ↔ _
    rw [jn_cons _ (by simp [rz]), jn_cons _ (by simp [rz]), List.append_assoc, List.append_assoc, app_lt, List.cons_append, List.nil_append, List.cons_append, List.nil_append, List.cons_lt_cons_iff, List.cons_lt_cons_iff (a := x)]
    rw [show (13 :: 10 :: jn (rz (t' :: s) (x' :: a)) < 13 :: 10 :: jn (rz (t' :: s) (y' :: b)) ↔ x' :: a < y' :: b) from (app_lt [13, 10] _ _).trans ih']
theorem two_rz {lt : Rows → Rows → Bool} (hlt : ∀ s a b, a.length = s.length → b.length = s.length → lt (rz s a) (rz s b) = ltN a b) {s a b : List Nat} (ha : a.length = s.length) (hb : b.length = s.length) : two' lt (rz s a) (rz s b) = (rz s (two' ltN a b).1, rz s (two' ltN a b).2) := by
  unfold two'
  rw [hlt s b a hb ha]
  split <;> rfl
theorem two_len1 {a b : List Nat} {n : Nat} (ha : a.length = n) (hb : b.length = n) : (two' ltN a b).1.length = n ∧ (two' ltN a b).2.length = n := by
  unfold two'; split
  · exact ⟨hb, ha⟩
  · exact ⟨ha, hb⟩
theorem rz_app {s s' a a' : List Nat} (h : s.length = a.length) : rz (s ++ s') (a ++ a') = rz s a ++ rz s' a' := by
  unfold rz; rw [List.zipWith_append h]
theorem rows_eq (N : Net) : ∀ d k t, rowsF N d k t = rz (sk d t) (wd N d k)
  | 0, _, _ => rfl
  | d + 1, k, t => by
    have l1 : (wd N d (wayOf N k).1).length = (sk d (t + 1)).length := by rw [wd_len, sk_len]
    have l2 : (wd N d (wayOf N k).2).length = (sk d (t + 1)).length := by rw [wd_len, sk_len]
    have l3 := two_len1 l1 l2
    rw [rowsF, rows_eq N d, rows_eq N d, two_rz ltR_rz l1 l2, sk, wd]
    show _ = rowOf N t k :: rz _ _
    rw [rz_app l3.1.symm]
theorem dotted_rz : ∀ s a, dotted (rz s a) = rz (s.map (· + 1)) a
  | [], _ => by simp [rz, dotted]
  | _ :: _, [] => by simp [rz, dotted]
  | t :: s, x :: a => by
    have := dotted_rz s a
    show (46 :: (List.replicate t 46 ++ [x])) :: dotted (rz s a) = (List.replicate (t + 1) 46 ++ [x]) :: rz (s.map (· + 1)) a
    rw [this, List.replicate_succ]; rfl
/-- the views of a depth -/
def vw (N : Net) (d : Nat) : List Rows := (List.range 4).map fun k => rowsF N d k 1
theorem vw_at (N : Net) (d : Nat) {i : Nat} (hi : i < 4) : (vw N d).getD i [] = rowsF N d i 1 := by
  unfold vw
  rw [List.getD_eq_getElem?_getD, List.getElem?_map, List.getElem?_range hi]; rfl
theorem let_eq {N : Net} (h : NetOk N) : N.L = (List.range 4).map (letOf N) := list4 N.L 0 h.l4
theorem way_eq {N : Net} (h : NetOk N) : N.W = (List.range 4).map (wayOf N) := list4 N.W (0, 0) h.w4
theorem start_eq {N : Net} (h : NetOk N) : startV N = vw N 0 := by
  unfold startV vw
  conv => lhs; rw [let_eq h]
  rw [List.map_map]; rfl
theorem step_eq {N : Net} (h : NetOk N) (d : Nat) : stepV N (vw N d) = vw N (d + 1) := by
  have e : N.L.zip N.W = (List.range 4).map fun k => (letOf N k, wayOf N k) := by
    conv => lhs; rw [let_eq h, way_eq h]
    rw [List.zip_map', ]
  unfold stepV
  rw [e, List.map_map]
  unfold vw
  refine List.map_congr_left fun k hk => ?_
  have wk := h.way (List.mem_range.mp hk)
  show [46, letOf N k] :: dotted (farOf (vw N d) (wayOf N k)) = _
  unfold farOf
  dsimp only
  rw [vw_at N d wk.1, vw_at N d wk.2]
  have l1 : (wd N d (wayOf N k).1).length = (sk d 1).length := by rw [wd_len, sk_len]
  have l2 : (wd N d (wayOf N k).2).length = (sk d 1).length := by rw [wd_len, sk_len]
  have l3 := two_len1 l1 l2
  rw [rows_eq, rows_eq, two_rz ltJ_rz l1 l2, rows_eq, sk, wd]
  show _ = [46, letOf N k] :: rz _ _
  dsimp only
  rw [← rz_app l3.1.symm, dotted_rz, List.map_append, ← sk_succ]
theorem views_fold {N : Net} (h : NetOk N) : ([0, 1, 2] : List Nat).foldl (nextV N) [startV N] = (List.range 4).map (vw N) := by
  have e0 : nextV N [vw N 0] 0 = [vw N 0, vw N 1] := by
    show [vw N 0] ++ [stepV N (vw N 0)] = _; rw [step_eq h]; rfl
  have e1 : nextV N [vw N 0, vw N 1] 1 = [vw N 0, vw N 1, vw N 2] := by
    show [vw N 0, vw N 1] ++ [stepV N (vw N 1)] = _; rw [step_eq h]; rfl
  have e2 : nextV N [vw N 0, vw N 1, vw N 2] 2 = [vw N 0, vw N 1, vw N 2, vw N 3] := by
    show [vw N 0, vw N 1, vw N 2] ++ [stepV N (vw N 2)] = _; rw [step_eq h]; rfl
  show nextV N (nextV N (nextV N [startV N] 0) 1) 2 = _
  rw [start_eq h, e0, e1, e2]; rfl
/-- each row: dots and a letter -/
theorem row_of {N : Net} (h : NetOk N) : ∀ d k t, k < 4 → ∀ x ∈ rowsF N d k t, ∃ s c, t ≤ s ∧ s ≤ t + d ∧ (c = 97 ∨ c = 98) ∧ x = List.replicate s 46 ++ [c] := by
  have hc : ∀ k, k < 4 → letOf N k = 97 ∨ letOf N k = 98 := fun k hk => by
    have : k < N.L.length := by rw [h.l4]; exact hk
    unfold letOf
    rw [List.getD_eq_getElem?_getD, List.getElem?_eq_getElem this]
    exact h.lc _ (List.getElem_mem this)
  intro d
  induction d with
  | zero =>
    intro k t hk x hx
    rw [rowsF, List.mem_singleton] at hx
    exact ⟨t, letOf N k, Nat.le_refl _, Nat.le_refl _, hc k hk, hx⟩
  | succ d ih =>
    intro k t hk x hx
    have wk := h.way hk
    rw [rowsF] at hx
    rcases List.mem_cons.mp hx with rfl | hx
    · exact ⟨t, letOf N k, Nat.le_refl _, Nat.le_add_right _ _, hc k hk, rfl⟩
    · have : x ∈ rowsF N d (wayOf N k).1 (t + 1) ∨ x ∈ rowsF N d (wayOf N k).2 (t + 1) := by
        unfold two' at hx
        split at hx
        · exact (List.mem_append.mp hx).symm
        · exact List.mem_append.mp hx
      rcases this with h' | h'
      · obtain ⟨s, c, h1, h2, h3, h4⟩ := ih _ _ wk.1 x h'
        exact ⟨s, c, by omega, by omega, h3, h4⟩
      · obtain ⟨s, c, h1, h2, h3, h4⟩ := ih _ _ wk.2 x h'
        exact ⟨s, c, by omega, by omega, h3, h4⟩
theorem num_ok {N : Net} (h : NetOk N) {d k : Nat} (hd : d ≤ 3) (hk : k < 4) : NumOk (rowsF N d k 1) := by
  refine ⟨⟨?_, ?_, fun x hx => ?_⟩, fun x hx c hc => ?_⟩
  · intro e
    have := rowsF_len N d k 1
    rw [e] at this
    have : mOf d ≠ 0 := by cases d <;> simp [mOf]
    simp at *; omega
  · rw [rowsF_len]
    have : d = 0 ∨ d = 1 ∨ d = 2 ∨ d = 3 := by omega
    rcases this with rfl | rfl | rfl | rfl <;> decide
  · obtain ⟨s, c, h1, h2, h3, rfl⟩ := row_of h d k 1 hk x hx
    refine ⟨by simp; omega, ?_⟩
    obtain ⟨s', rfl⟩ : ∃ s', s = s' + 1 := ⟨s - 1, by omega⟩
    refine ⟨List.replicate s' 46 ++ [c], by rw [List.replicate_succ]; rfl, fun e he => ?_⟩
    rcases List.mem_append.mp he with he | he
    · rw [List.eq_of_mem_replicate he]; decide
    · rw [List.mem_singleton] at he; subst he
      rcases h3 with rfl | rfl <;> decide
  · obtain ⟨s, e, h1, h2, h3, rfl⟩ := row_of h d k 1 hk x hx
    rcases List.mem_append.mp hc with he | he
    · exact .inl (List.eq_of_mem_replicate he)
    · rw [List.mem_singleton] at he; subst he; exact .inr h3
/-- the views stay such as can be sent -/
theorem st_step {N : Net} (h : NetOk N) : ∀ k, k < 3 → ∀ st, StOk N k st → StOk N (k + 1) (nextV N st k) := by
  intro k hk st I
  have V4 := I.ok
  have hrow := I.row
  have el : (nextV N st k).getLastD [] = stepV N (st.getLastD []) := by
    unfold nextV; rw [List.getLastD_eq_getLast?, List.getLast?_concat]; rfl
  generalize hV : st.getLastD [] = V at *
  have key : ∀ x ∈ N.L.zip N.W, RowsOk (mOf (k + 1)) ([46, x.1] :: dotted (farOf V x.2)) ∧ ∀ y ∈ ([46, x.1] :: dotted (farOf V x.2)), y.length ≤ 2 + (k + 1) := by
    intro x hx
    have hx1 := (List.of_mem_zip hx).1
    have hp' := h.wc x.2 (List.of_mem_zip hx).2
    have fo := far_ok V4 hp'
    have hf : ∀ y ∈ farOf V x.2, y.length ≤ 2 + k := fun y hy => by
      unfold farOf two' at hy
      dsimp only at hy
      have : y ∈ V.getD x.2.1 [] ∨ y ∈ V.getD x.2.2 [] := by
        split at hy
        · exact (List.mem_append.mp hy).symm
        · exact List.mem_append.mp hy
      have hmem : ∀ i, i < 4 → V.getD i [] ∈ V := fun i hi => by
        have : i < V.length := by rw [V4.l4]; exact hi
        rw [List.getD_eq_getElem?_getD, List.getElem?_eq_getElem this]; exact List.getElem_mem this
      rcases this with h' | h'
      · exact hrow _ (hmem _ hp'.1) y h'
      · exact hrow _ (hmem _ hp'.2) y h'
    have fd := dotted_ok fo fun y hy => by have := hf y hy; omega
    have hd : ∀ y ∈ dotted (farOf V x.2), y.length ≤ 2 + (k + 1) := fun y hy => by
      unfold dotted at hy
      rw [List.mem_map] at hy
      obtain ⟨z, hz, rfl⟩ := hy
      have := hf z hz
      simp; omega
    refine ⟨⟨by simp, ?_, fun y hy => ?_⟩, fun y hy => ?_⟩
    · have := fd.len
      rw [List.length_cons, mOf]; omega
    · rcases List.mem_cons.mp hy with rfl | hy
      · refine ⟨by show 2 ≤ 10; decide, [x.1], rfl, fun c hc => ?_⟩
        rw [List.mem_singleton] at hc; subst hc
        rcases h.lc _ hx1 with e | e <;> rw [e] <;> decide
      · exact fd.row y hy
    · rcases List.mem_cons.mp hy with rfl | hy
      · show 2 ≤ _; omega
      · exact hd y hy
  refine ⟨by unfold nextV; rw [List.length_append, I.len]; rfl, ?_, ?_⟩
  · rw [el]
    refine ⟨by unfold stepV; rw [List.length_map, List.length_zip, h.l4, h.w4]; rfl, fun r hr => ?_⟩
    unfold stepV at hr
    rw [List.mem_map] at hr
    obtain ⟨x, hx, rfl⟩ := hr
    exact (key x hx).1
  · rw [el]
    intro r hr
    unfold stepV at hr
    rw [List.mem_map] at hr
    obtain ⟨x, hx, rfl⟩ := hr
    exact (key x hx).2
theorem st_zero {N : Net} (h : NetOk N) : StOk N 0 [startV N] := by
  refine ⟨rfl, ⟨by show (startV N).length = 4; unfold startV; rw [List.length_map, h.l4], fun r hr => ?_⟩, fun r hr x hx => ?_⟩
  · have hr' : r ∈ startV N := hr
    unfold startV at hr'
    rw [List.mem_map] at hr'
    obtain ⟨c, hc, rfl⟩ := hr'
    refine ⟨by simp, by show 1 ≤ 1; decide, fun x hx => ?_⟩
    rw [List.mem_singleton] at hx; subst hx
    refine ⟨by show 2 ≤ 10; decide, [c], rfl, fun e he => ?_⟩
    rw [List.mem_singleton] at he; subst he
    rcases h.lc _ hc with e | e <;> rw [e] <;> decide
  · have hr' : r ∈ startV N := hr
    unfold startV at hr'
    rw [List.mem_map] at hr'
    obtain ⟨c, hc, rfl⟩ := hr'
    rw [List.mem_singleton] at hx; subst hx
    show 2 ≤ 2; decide
end M3
end
-- part GQ2
section
set_option maxRecDepth 100000
namespace M3
open PySem PySem.Builtin PySem.Builtin.Str PySem.StrLaws
/-- alike: the same word -/
theorem ltN_tot {a b : List Nat} (h1 : ltN a b = false) (h2 : ltN b a = false) : a = b := by
  unfold ltN at h1 h2
  have h1 := of_decide_eq_false h1
  have h2 := of_decide_eq_false h2
  exact List.le_antisymm (List.not_lt.mp h2) (List.not_lt.mp h1)
theorem ltN_asymm {a b : List Nat} (h1 : ltN a b = true) : ltN b a = false := by
  unfold ltN at *
  exact decide_eq_false (List.lt_asymm (of_decide_eq_true h1))
theorem two_comm (a b : List Nat) : two' ltN a b = two' ltN b a := by
  unfold two'
  by_cases h1 : ltN b a = true
  · rw [if_pos h1, ltN_asymm h1]; rfl
  · rw [if_neg h1]
    by_cases h2 : ltN a b = true
    · rw [if_pos h2]
    · rw [if_neg h2]
      have := ltN_tot (Bool.eq_false_iff.mpr h1) (Bool.eq_false_iff.mpr h2)
      rw [this]
theorem two_cases (a b : List Nat) : two' ltN a b = (a, b) ∨ two' ltN a b = (b, a) := by
  unfold two'; split
  · exact .inr rfl
  · exact .inl rfl
theorem two_eq {a b c d : List Nat} : two' ltN a b = two' ltN c d ↔ (a = c ∧ b = d) ∨ (a = d ∧ b = c) := by
  constructor
  · intro h
    rcases two_cases a b with h1 | h1 <;> rcases two_cases c d with h2 | h2 <;> rw [h1, h2] at h <;> simp only [Prod.mk.injEq] at h
    · exact .inl h
    · exact .inr h
    · exact .inr h.symm
    · exact .inl h.symm
  · rintro (⟨rfl, rfl⟩ | ⟨rfl, rfl⟩)
    · rfl
    · exact two_comm _ _
theorem alike_wd (N : Net) : ∀ d i j, alikeF N d i j = (wd N d i == wd N d j)
  | 0, i, j => by
    rw [alikeF, wd, wd]; simp
  | d + 1, i, j => by
    rw [alikeF, alike_wd N d, alike_wd N d, alike_wd N d, alike_wd N d, Bool.eq_iff_iff]
    have l1 := two_len1 (n := mOf d) (wd_len N d (wayOf N i).1) (wd_len N d (wayOf N i).2)
    have l2 := two_len1 (n := mOf d) (wd_len N d (wayOf N j).1) (wd_len N d (wayOf N j).2)
    have e : (wd N (d + 1) i = wd N (d + 1) j) ↔ letOf N i = letOf N j ∧ two' ltN (wd N d (wayOf N i).1) (wd N d (wayOf N i).2) = two' ltN (wd N d (wayOf N j).1) (wd N d (wayOf N j).2) := by
      rw [wd, wd, List.cons.injEq]
      constructor
      · rintro ⟨h1, h2⟩
        have := List.append_inj h2 (by rw [l1.1, l2.1])
        exact ⟨h1, Prod.ext this.1 this.2⟩
      · rintro ⟨h1, h2⟩
        rw [h1, h2]; exact ⟨rfl, rfl⟩
    rw [beq_iff_eq, e, two_eq]
    simp only [Bool.and_eq_true, Bool.or_eq_true, beq_iff_eq]
/-- a view's name tells its word -/
theorem joinL_cons (sep r : List Nat) {rs : Rows} (h : rs ≠ []) : joinL sep (r :: rs) = r ++ sep ++ joinL sep rs := by
  cases rs with
  | nil => exact absurd rfl h
  | cons r' rs => rfl
theorem join_inj (sep : List Nat) : ∀ (s a b : List Nat), a.length = s.length → b.length = s.length → joinL sep (rz s a) = joinL sep (rz s b) → a = b
  | [], [], [], _, _, _ => rfl
  | [t], [x], [y], _, _, h => by
    have h : List.replicate t 46 ++ [x] = List.replicate t 46 ++ [y] := h
    exact List.append_cancel_left h
  | t :: t' :: s, x :: x' :: a, y :: y' :: b, ha, hb, h => by
    have h : joinL sep ((List.replicate t 46 ++ [x]) :: rz (t' :: s) (x' :: a)) = joinL sep ((List.replicate t 46 ++ [y]) :: rz (t' :: s) (y' :: b)) := h
    rw [joinL_cons _ _ (by simp [rz]), joinL_cons _ _ (by simp [rz]), List.append_assoc, List.append_assoc, List.append_assoc, List.append_assoc] at h
    have h1 := List.append_cancel_left h
    rw [List.cons_append, List.cons_append, List.nil_append, List.nil_append, List.cons.injEq] at h1
    obtain ⟨rfl, h2⟩ := h1
    have h3 := join_inj sep (t' :: s) (x' :: a) (y' :: b) (by simpa using ha) (by simpa using hb) (List.append_cancel_left h2)
    rw [h3]
theorem name_wd (N : Net) (d i j : Nat) : (nmV (rowsF N d i 1) == nmV (rowsF N d j 1)) = (wd N d i == wd N d j) := by
  rw [Bool.eq_iff_iff, beq_iff_eq, beq_iff_eq, rows_eq, rows_eq]
  constructor
  · intro h
    exact join_inj [47] (sk d 1) _ _ (by rw [wd_len, sk_len]) (by rw [wd_len, sk_len]) h
  · intro h; rw [h]
/-- labels as they come -/
def labS (r : Nat → Nat → Bool) (st : List Nat × List Nat) (k : Nat) : List Nat × List Nat :=
  (if ((st.1.zipIdx.filter fun p => r p.1 k).map (·.2)).isEmpty then st.1 ++ [k] else st.1, st.2 ++ [((st.1.zipIdx.filter fun p => r p.1 k).map (·.2)).headD st.1.length])
def labR (r : Nat → Nat → Bool) : List Nat := ((List.range' 0 4).foldl (labS r) ([], [])).2
theorem refined_lab (N : Net) (cs : List Nat) : refinedF N cs = labR (stay N cs) := rfl
theorem lab_fold {r r' : Nat → Nat → Bool} (h : ∀ i j, i < j → j < 4 → r i j = r' i j) : ∀ (m k : Nat) (st : List Nat × List Nat), k + m ≤ 4 → (∀ i ∈ st.1, i < k) → (List.range' k m).foldl (labS r) st = (List.range' k m).foldl (labS r') st
  | 0, _, _, _, _ => rfl
  | m + 1, k, st, hm, hi => by
    have e : labS r st k = labS r' st k := by
      unfold labS
      rw [List.filter_congr (q := fun p => r' p.1 k) fun p hp => h _ _ (hi _ (List.fst_mem_of_mem_zipIdx hp)) (by omega)]
    rw [List.range'_succ, List.foldl_cons, List.foldl_cons, e]
    refine lab_fold h m (k + 1) _ (by omega) fun i hi' => ?_
    unfold labS at hi'
    dsimp only at hi'
    split at hi'
    · rcases List.mem_append.mp hi' with h' | h'
      · have := hi i h'; omega
      · rw [List.mem_singleton] at h'; omega
    · have := hi i hi'; omega
theorem lab_congr {r r' : Nat → Nat → Bool} (h : ∀ i j, i < j → j < 4 → r i j = r' i j) : labR r = labR r' := by
  unfold labR
  rw [lab_fold h 4 0 ([], []) (by decide) (fun _ h => nomatch h)]
theorem find_idx (g : Nat → List Nat) (k : Nat) : ∀ (l : List Nat) (n : Nat), (((l.zipIdx n).filter fun p => g p.1 == g k).map (·.2)).headD (n + l.length) = n + (l.map g).idxOf (g k)
  | [], n => rfl
  | a :: l, n => by
    rw [List.zipIdx_cons, List.map_cons, List.idxOf_cons]
    by_cases h : g a = g k
    · rw [List.filter_cons_of_pos (by simpa using h)]
      simp [h]
    · rw [List.filter_cons_of_neg (by simpa using h)]
      have hb : (g a == g k) = false := by simpa using h
      rw [hb, show n + (a :: l).length = (n + 1) + l.length by simp; omega, find_idx g k l (n + 1)]
      simp; omega
theorem find_empty (g : Nat → List Nat) (k : Nat) : ∀ (l : List Nat) (n : Nat), (((l.zipIdx n).filter fun p => g p.1 == g k).map (·.2)).isEmpty = !(l.map g).contains (g k)
  | [], n => rfl
  | a :: l, n => by
    rw [List.zipIdx_cons, List.map_cons, List.contains_cons]
    by_cases h : g a = g k
    · rw [List.filter_cons_of_pos (by simpa using h)]
      simp [h]
    · rw [List.filter_cons_of_neg (by simpa using h), find_empty g k l (n + 1)]
      have hb : (g k == g a) = false := by simpa using fun e => h e.symm
      rw [hb, Bool.false_or]
theorem lab_nums (g : Nat → List Nat) : ∀ (m k : Nat) (st : List Nat × List Nat), ((List.range' k m).foldl (labS fun i j => g i == g j) st).2 = st.2 ++ numsOf (st.1.map g) ((List.range' k m).map g)
  | 0, _, st => by simp [numsOf]
  | m + 1, k, st => by
    rw [List.range'_succ, List.foldl_cons, List.map_cons, numsOf, lab_nums g m (k + 1)]
    have e1 : (labS (fun i j => g i == g j) st k).2 = st.2 ++ [(numStep (st.1.map g) (g k)).1] := by
      unfold labS numStep
      dsimp only
      have h1 := find_idx g k st.1 0
      rw [Nat.zero_add, Nat.zero_add] at h1
      rw [h1]
      split
      · rfl
      · rename_i hc
        have : g k ∉ st.1.map g := by simpa using hc
        rw [List.idxOf_eq_length this, List.length_map]
    have e2 : (labS (fun i j => g i == g j) st k).1.map g = (numStep (st.1.map g) (g k)).2 := by
      unfold labS numStep
      dsimp only
      rw [find_empty g k st.1 0]
      by_cases hc : (st.1.map g).contains (g k) = true
      · rw [hc, if_pos rfl]; rfl
      · rw [Bool.eq_false_iff.mpr hc]; simp
    rw [e1, e2, List.append_assoc]; rfl
theorem nums_lab (g : Nat → List Nat) : numsOf [] ((List.range 4).map g) = labR fun i j => g i == g j := by
  have := lab_nums g 4 0 ([], [])
  unfold labR
  rw [this]; rfl
end M3
end
-- part GQ3
section
set_option maxRecDepth 100000
namespace M3
open PySem PySem.Builtin PySem.Builtin.Str PySem.StrLaws
/-- a relation of four places by its six answers -/
def rB (a b c d e f : Bool) : Nat → Nat → Bool
  | 0, 1 => a
  | 0, 2 => b
  | 0, 3 => c
  | 1, 2 => d
  | 1, 3 => e
  | 2, 3 => f
  | _, _ => true
/-- the answers of an equivalence -/
def eqv6 (a b c d e f : Bool) : Bool :=
  (!(a && d) || b) && (!(a && b) || d) && (!(b && d) || a) &&
  (!(a && e) || c) && (!(a && c) || e) && (!(c && e) || a) &&
  (!(b && f) || c) && (!(b && c) || f) && (!(c && f) || b) &&
  (!(d && f) || e) && (!(d && e) || f) && (!(e && f) || d)
def okL (a b c d e f : Bool) : Bool :=
  let l := labR (rB a b c d e f)
  decide (l.length = 4) && l.all (fun c => decide (c < 4)) &&
  ((List.range 4).all fun i => (List.range 4).all fun j => (l.getD i 0 == l.getD j 0) == (if i < j then rB a b c d e f i j else if j < i then rB a b c d e f j i else true)) &&
  (l.map (fun x => l.idxOf x) == (List.range 4).map fun k => ((List.range (k + 1)).filter fun j => rB a b c d e f j k).headD 0)
theorem okL_all : ∀ a b c d e f : Bool, eqv6 a b c d e f = true → okL a b c d e f = true := by decide +kernel
/-- how many classes -/
def numC (a b c d e f : Bool) : Nat := 1 + (!a).toNat + (!(b || d)).toNat + (!(c || e || f)).toNat
theorem numC_lt : ∀ a b c d e f a' b' c' d' e' f' : Bool, eqv6 a b c d e f = true → eqv6 a' b' c' d' e' f' = true → (!a' || a) && (!b' || b) && (!c' || c) && (!d' || d) && (!e' || e) && (!f' || f) = true →
    numC a b c d e f < numC a' b' c' d' e' f' ∨ (a = a' ∧ b = b' ∧ c = c' ∧ d = d' ∧ e = e' ∧ f = f') := by decide +kernel
/-- an equivalence -/
structure Eqv (r : Nat → Nat → Bool) : Prop where
  rf : ∀ i, r i i = true
  sy : ∀ i j, r i j = r j i
  tr : ∀ i j k, r i j = true → r j k = true → r i k = true
def six (r : Nat → Nat → Bool) (P : Bool → Bool → Bool → Bool → Bool → Bool → Prop) : Prop := P (r 0 1) (r 0 2) (r 0 3) (r 1 2) (r 1 3) (r 2 3)
theorem rB_at (r : Nat → Nat → Bool) : ∀ i j, i < j → j < 4 → r i j = rB (r 0 1) (r 0 2) (r 0 3) (r 1 2) (r 1 3) (r 2 3) i j := by
  intro i j hi hj
  have : (i = 0 ∧ j = 1) ∨ (i = 0 ∧ j = 2) ∨ (i = 0 ∧ j = 3) ∨ (i = 1 ∧ j = 2) ∨ (i = 1 ∧ j = 3) ∨ (i = 2 ∧ j = 3) := by omega
  rcases this with ⟨rfl, rfl⟩ | ⟨rfl, rfl⟩ | ⟨rfl, rfl⟩ | ⟨rfl, rfl⟩ | ⟨rfl, rfl⟩ | ⟨rfl, rfl⟩ <;> rfl
theorem impB {x y z : Bool} (h : x = true → y = true → z = true) : (!(x && y) || z) = true := by
  cases x <;> cases y <;> cases z <;> simp at h ⊢
theorem Eqv.six {r : Nat → Nat → Bool} (h : Eqv r) : eqv6 (r 0 1) (r 0 2) (r 0 3) (r 1 2) (r 1 3) (r 2 3) = true := by
  unfold eqv6
  have t1 : ∀ i j k, (!(r i j && r j k) || r i k) = true := fun i j k => impB (h.tr i j k)
  have t2 : ∀ i j k, (!(r i j && r i k) || r j k) = true := fun i j k => impB fun a b => h.tr j i k (by rw [h.sy]; exact a) b
  have t3 : ∀ i j k, (!(r i k && r j k) || r i j) = true := fun i j k => impB fun a b => h.tr i k j a (by rw [h.sy]; exact b)
  simp only [t1, t2, t3, Bool.and_self]
theorem Eqv.ok {r : Nat → Nat → Bool} (h : Eqv r) : okL (r 0 1) (r 0 2) (r 0 3) (r 1 2) (r 1 3) (r 2 3) = true := okL_all _ _ _ _ _ _ h.six
theorem lab_rB (r : Nat → Nat → Bool) : labR (rB (r 0 1) (r 0 2) (r 0 3) (r 1 2) (r 1 3) (r 2 3)) = labR r := (lab_congr (rB_at r)).symm
theorem Eqv.parts {r : Nat → Nat → Bool} (h : Eqv r) : ClsOk (labR r) ∧ (∀ i j, i < 4 → j < 4 → ((labR r).getD i 0 == (labR r).getD j 0) = r i j) ∧
    ((labR r).map fun x => (labR r).idxOf x) = (List.range 4).map fun k => ((List.range (k + 1)).filter fun j => r j k).headD 0 := by
  have ok := h.ok
  unfold okL at ok
  rw [lab_rB] at ok
  simp only [Bool.and_eq_true, decide_eq_true_eq, List.all_eq_true, List.mem_range] at ok
  obtain ⟨⟨⟨h1, h2⟩, h3⟩, h4⟩ := ok
  refine ⟨⟨h1, h2⟩, fun i j hi hj => ?_, ?_⟩
  · have := eq_of_beq (h3 i hi j hj)
    rw [this]
    split
    · exact (rB_at r i j (by assumption) hj).symm
    · split
      · rw [h.sy i j]; exact (rB_at r j i (by assumption) hi).symm
      · have : i = j := by omega
        subst this; exact (h.rf i).symm
  · rw [eq_of_beq h4]
    refine List.map_congr_left fun k hk => ?_
    have hk4 := List.mem_range.mp hk
    congr 1
    refine List.filter_congr fun j hj => ?_
    have hjk := List.mem_range.mp hj
    by_cases e : j = k
    · subst e
      rw [h.rf]
      have : j = 0 ∨ j = 1 ∨ j = 2 ∨ j = 3 := by omega
      rcases this with rfl | rfl | rfl | rfl <;> rfl
    · exact (rB_at r j k (by omega) hk4).symm
/-- alike is an equivalence -/
theorem alike_eqv (N : Net) (d : Nat) : Eqv (alikeF N d) := by
  refine ⟨fun i => ?_, fun i j => ?_, fun i j k h1 h2 => ?_⟩
  · rw [alike_wd]; simp
  · rw [alike_wd, alike_wd, Bool.eq_iff_iff, beq_iff_eq, beq_iff_eq]; exact ⟨Eq.symm, Eq.symm⟩
  · rw [alike_wd, beq_iff_eq] at *
    exact h1.trans h2
/-- the ends of the ways, one by one or crosswise -/
def endsA (N : Net) (r : Nat → Nat → Bool) (i j : Nat) : Bool :=
  (r (wayOf N i).1 (wayOf N j).1 && r (wayOf N i).2 (wayOf N j).2) || (r (wayOf N i).1 (wayOf N j).2 && r (wayOf N i).2 (wayOf N j).1)
theorem alike_succ (N : Net) (d i j : Nat) : alikeF N (d + 1) i j = ((letOf N i == letOf N j) && endsA N (alikeF N d) i j) := by
  rw [alikeF]; rfl
theorem endsA_mono {N : Net} {r r' : Nat → Nat → Bool} (h : ∀ i j, r i j = true → r' i j = true) (i j : Nat) : endsA N r i j = true → endsA N r' i j = true := by
  unfold endsA
  simp only [Bool.or_eq_true, Bool.and_eq_true]
  rintro (⟨a, b⟩ | ⟨a, b⟩)
  · exact .inl ⟨h _ _ a, h _ _ b⟩
  · exact .inr ⟨h _ _ a, h _ _ b⟩
theorem alike_mono (N : Net) : ∀ d i j, alikeF N (d + 1) i j = true → alikeF N d i j = true
  | 0, i, j, h => by
    rw [alike_succ] at h
    rw [alikeF]
    exact (Bool.and_eq_true_iff.mp h).1
  | d + 1, i, j, h => by
    rw [alike_succ] at h ⊢
    obtain ⟨h1, h2⟩ := Bool.and_eq_true_iff.mp h
    rw [h1, endsA_mono (alike_mono N d) i j h2]; rfl
theorem alike_let (N : Net) : ∀ d i j, alikeF N d i j = true → (letOf N i == letOf N j) = true
  | 0, i, j, h => by rw [alikeF] at h; exact h
  | d + 1, i, j, h => by rw [alike_succ] at h; exact (Bool.and_eq_true_iff.mp h).1
/-- one round of classes -/
def cls (N : Net) (d : Nat) : List Nat := labR (alikeF N d)
theorem cls_ok (N : Net) (d : Nat) : ClsOk (cls N d) := (alike_eqv N d).parts.1
theorem cnt2 : ∀ a b c d : Fin 4, (cnt [a.val, b.val] == cnt [c.val, d.val]) = (((a == c) && (b == d)) || ((a == d) && (b == c))) := by decide +kernel
theorem cnt2' {a b c d : Nat} (ha : a < 4) (hb : b < 4) (hc : c < 4) (hd : d < 4) : (cnt [a, b] == cnt [c, d]) = (((a == c) && (b == d)) || ((a == d) && (b == c))) := by
  have := cnt2 ⟨a, ha⟩ ⟨b, hb⟩ ⟨c, hc⟩ ⟨d, hd⟩
  rw [this, Bool.eq_iff_iff]
  simp [Fin.ext_iff]
theorem stay_alike {N : Net} (h : NetOk N) (d : Nat) {i j : Nat} (hi : i < 4) (hj : j < 4) : stay N (cls N d) i j = alikeF N (d + 1) i j := by
  have P := (alike_eqv N d).parts
  have wi := h.way hi
  have wj := h.way hj
  have ok := cls_ok N d
  unfold stay endsOf
  rw [cnt2' (ok.at_ wi.1) (ok.at_ wi.2) (ok.at_ wj.1) (ok.at_ wj.2)]
  unfold cls
  rw [P.2.1 i j hi hj, P.2.1 _ _ wi.1 wj.1, P.2.1 _ _ wi.2 wj.2, P.2.1 _ _ wi.1 wj.2, P.2.1 _ _ wi.2 wj.1]
  show (alikeF N d i j && endsA N (alikeF N d) i j) = _
  rw [Bool.eq_iff_iff]
  constructor
  · intro h1
    obtain ⟨h2, h3⟩ := Bool.and_eq_true_iff.mp h1
    rw [alike_succ, h3, alike_let N d i j h2]; rfl
  · intro h1
    rw [alike_mono N d i j h1]
    rw [alike_succ] at h1
    exact (Bool.and_eq_true_iff.mp h1).2
/-- a round more -/
theorem refined_cls {N : Net} (h : NetOk N) (d : Nat) : refinedF N (cls N d) = cls N (d + 1) := by
  rw [refined_lab]
  exact lab_congr fun i j hi hj => stay_alike h d (by omega) hj
/-- the numbers of the views -/
theorem nums_cls (N : Net) (d : Nat) : numsOf [] ((vw N d).map nmV) = cls N d := by
  have e : (vw N d).map nmV = (List.range 4).map fun k => nmV (rowsF N d k 1) := by
    unfold vw; rw [List.map_map]; rfl
  rw [e, nums_lab]
  exact lab_congr fun i j hi hj => by rw [name_wd, alike_wd]
theorem first_cls (N : Net) (d : Nat) : ((cls N d).map fun x => (cls N d).idxOf x) = (List.range 4).map fun k => ((List.range (k + 1)).filter fun j => alikeF N d j k).headD 0 := (alike_eqv N d).parts.2.2
/-- the first classes -/
theorem first0 {N : Net} (h : NetOk N) : (N.L.map fun c => if c == letOf N 0 then 0 else 1) = cls N 0 := by
  have e := let_eq h
  have hc : ∀ k, k < 4 → letOf N k = 97 ∨ letOf N k = 98 := fun k hk => by
    have : k < N.L.length := by rw [h.l4]; exact hk
    unfold letOf
    rw [List.getD_eq_getElem?_getD, List.getElem?_eq_getElem this]
    exact h.lc _ (List.getElem_mem this)
  have h0 := hc 0 (by decide)
  have h1 := hc 1 (by decide)
  have h2 := hc 2 (by decide)
  have h3 := hc 3 (by decide)
  conv => lhs; rw [e]
  unfold cls
  rw [← lab_rB]
  simp only [alikeF]
  show [if letOf N 0 == letOf N 0 then 0 else 1, if letOf N 1 == letOf N 0 then 0 else 1, if letOf N 2 == letOf N 0 then 0 else 1, if letOf N 3 == letOf N 0 then 0 else 1] = _
  generalize letOf N 0 = a at *
  generalize letOf N 1 = b at *
  generalize letOf N 2 = c at *
  generalize letOf N 3 = d at *
  rcases h0 with rfl | rfl <;> rcases h1 with rfl | rfl <;> rcases h2 with rfl | rfl <;> rcases h3 with rfl | rfl <;> rfl
/-- how many are parted -/
def numOf (r : Nat → Nat → Bool) : Nat := numC (r 0 1) (r 0 2) (r 0 3) (r 1 2) (r 1 3) (r 2 3)
theorem numOf_le (r : Nat → Nat → Bool) : 1 ≤ numOf r ∧ numOf r ≤ 4 := by
  unfold numOf numC
  have h (b : Bool) : b.toNat ≤ 1 := Bool.toNat_le b
  have h1 := h (!(r 0 1))
  have h2 := h (!(r 0 2 || r 1 2))
  have h3 := h (!(r 0 3 || r 1 3 || r 2 3))
  omega
theorem imp1 {x y : Bool} (h : y = true → x = true) : (!y || x) = true := by
  cases x <;> cases y <;> simp at h ⊢
theorem num_lt (N : Net) (d : Nat) : numOf (alikeF N d) < numOf (alikeF N (d + 1)) ∨ ∀ i j, i < 4 → j < 4 → alikeF N d i j = alikeF N (d + 1) i j := by
  have e1 := alike_eqv N d
  have e2 := alike_eqv N (d + 1)
  have hm : ∀ i j, (!(alikeF N (d + 1) i j) || alikeF N d i j) = true := fun i j => imp1 (alike_mono N d i j)
  rcases numC_lt _ _ _ _ _ _ _ _ _ _ _ _ e1.six e2.six (by simp only [hm, Bool.and_self, decide_true]) with h | ⟨h1, h2, h3, h4, h5, h6⟩
  · exact .inl h
  · refine .inr fun i j hi hj => ?_
    have up : ∀ i j, i < j → j < 4 → alikeF N d i j = alikeF N (d + 1) i j := fun i j hi hj => by
      rw [rB_at (alikeF N d) i j hi hj, rB_at (alikeF N (d + 1)) i j hi hj, h1, h2, h3, h4, h5, h6]
    rcases Nat.lt_trichotomy i j with h | h | h
    · exact up i j h hj
    · subst h; rw [e1.rf, e2.rf]
    · rw [e1.sy, e2.sy]; exact up j i h hi
theorem stable {N : Net} (h : NetOk N) {d : Nat} (hs : ∀ i j, i < 4 → j < 4 → alikeF N d i j = alikeF N (d + 1) i j) : ∀ i j, i < 4 → j < 4 → alikeF N (d + 1) i j = alikeF N (d + 2) i j := by
  intro i j hi hj
  have wi := h.way hi
  have wj := h.way hj
  rw [alike_succ N d, alike_succ N (d + 1)]
  unfold endsA
  rw [hs _ _ wi.1 wj.1, hs _ _ wi.2 wj.2, hs _ _ wi.1 wj.2, hs _ _ wi.2 wj.1]
theorem one_class {r : Nat → Nat → Bool} (e : Eqv r) (h : numOf r = 1) : ∀ i j, i < 4 → j < 4 → r i j = true := by
  have key : ∀ a b c d e f : Bool, eqv6 a b c d e f = true → numC a b c d e f = 1 → a = true ∧ b = true ∧ c = true ∧ d = true ∧ e = true ∧ f = true := by decide +kernel
  obtain ⟨h1, h2, h3, h4, h5, h6⟩ := key _ _ _ _ _ _ e.six h
  have up : ∀ i j, i < j → j < 4 → r i j = true := fun i j hi hj => by
    rw [rB_at r i j hi hj, h1, h2, h3, h4, h5, h6]
    have : (i = 0 ∧ j = 1) ∨ (i = 0 ∧ j = 2) ∨ (i = 0 ∧ j = 3) ∨ (i = 1 ∧ j = 2) ∨ (i = 1 ∧ j = 3) ∨ (i = 2 ∧ j = 3) := by omega
    rcases this with ⟨rfl, rfl⟩ | ⟨rfl, rfl⟩ | ⟨rfl, rfl⟩ | ⟨rfl, rfl⟩ | ⟨rfl, rfl⟩ | ⟨rfl, rfl⟩ <;> rfl
  intro i j hi hj
  rcases Nat.lt_trichotomy i j with h | h | h
  · exact up i j h hj
  · subst h; exact e.rf i
  · rw [e.sy]; exact up j i h hi
/-- depth 3 parts no more than depth 2 -/
theorem last_same {N : Net} (h : NetOk N) : cls N 3 = cls N 2 := by
  have fin : (∀ i j, i < 4 → j < 4 → alikeF N 2 i j = alikeF N 3 i j) → cls N 3 = cls N 2 := fun hs => lab_congr fun i j hi hj => (hs i j (by omega) hj).symm
  rcases num_lt N 2 with h2 | h2
  · rcases num_lt N 1 with h1 | h1
    · rcases num_lt N 0 with h0 | h0
      · have b0 := numOf_le (alikeF N 0)
        have b3 := numOf_le (alikeF N 3)
        have : numOf (alikeF N 0) = 1 := by
          simp only [Nat.reduceAdd] at h0 h1 h2
          omega
        have all := one_class (alike_eqv N 0) this
        refine fin (stable h (stable h fun i j hi hj => ?_))
        have wi := h.way hi
        have wj := h.way hj
        have := all i j hi hj
        rw [this, alike_succ, alike_let N 0 i j this]
        unfold endsA
        rw [all _ _ wi.1 wj.1, all _ _ wi.2 wj.2]; rfl
      · exact fin (stable h (stable h h0))
    · exact fin (stable h h1)
  · exact fin h2
end M3
end
-- part GF16
section
set_option maxRecDepth 100000
namespace M3
open PySem PySem.Calls PySem.Spec PyProof.Rows PySem.W PySem.Builtin PySem.Builtin.Str PySem.Builtin.Re
theorem Mt.list {G : Gc} {n : Nat} {name : Str} {id : String} {l : List D} {P : Value → List D → Prop} (slot : PySem.Slot "list" name id) (hty : typeOf (.builtin id) = pure (.type "method_descriptor")) (h : P (.builtin id) [.list l]) : Mt G n name (.list l) P :=
  Mt.slot (fun Z s v zin hv => by
    obtain ⟨a, us, rfl, hs, hh⟩ := hv
    exact (hs.list zin).typeIs) (fun Z s v zin hv b eb => by
    obtain ⟨a, us, rfl, hs, hh⟩ := hv
    cases eb
    obtain ⟨o, eo, p, _⟩ := hs.pl zin
    exact ⟨o, eo, p.d⟩) PySem.F.plainAttrs_list slot hty h
theorem ForTo.turns {G : Gc} {n : Nat} {sc : Scope} {tgs : List Str} {tg : Expr} {body : List Stmt} (dd : Nat → D) (R : Nat → Rho) {M : Nat}
    (step : ∀ k, k < M → ∃ ρ₁, Tg G sc tgs (R k) tg (dd k) ρ₁ ∧ Ex G n sc ρ₁ body (.nx (R (k + 1)))) : ∀ (m k : Nat), k + m ≤ M → ForTo G n sc tgs tg body ((List.range' k m).map dd) (R k) (.nx (R (k + m)))
  | 0, _, _ => rfl
  | m + 1, k, hm => by
    obtain ⟨ρ₁, h2, h3⟩ := step k (by omega)
    rw [show k + (m + 1) = (k + 1) + m by omega]
    exact ⟨ρ₁, h2, .inl ⟨_, h3, ForTo.turns dd R step m (k + 1) (by omega)⟩⟩
theorem It.range1N {G : Gc} {n : Nat} {sc : Scope} {ρ : Rho} {tg e : Expr} {x : Str} {px np pos : Pos} (ht : tg = .Name x px) (c : Callee G sc (Str.ofString "range") (.type "range")) {k : Nat} (hk : k < 1000000) (a : Ev G n sc ρ e (.int k)) (hs : noStar [e] = true)
    (hse : ∀ env, starEach [e] env = (false, eval e env) :: starEach [] env) : It G n sc ρ tg (.Call (.Name (Str.ofString "range") np) [e] [] pos) ((List.range k).map fun (i : Nat) => D.int (i : Int)) false := by
  have := It.range1' (G := G) (n := n) (sc := sc) (ρ := ρ) (np := np) (pos := pos) ht c hk a hs hse
  rw [List.map_map] at this
  exact this
def netOf (dr : List Int) : Net := ⟨dr.map fun v => if v < 16 then 97 else 98, dr.map fun v => ((v.fmod 4).toNat, ((v.fdiv 4).fmod 4).toNat)⟩
theorem fmod4 (v : Int) : 0 ≤ v.fmod 4 ∧ v.fmod 4 < 4 := by
  rw [Int.fmod_eq_emod_of_nonneg v (by decide)]; omega
theorem netOf_ok {dr : List Int} (h : dr.length = 4) : NetOk (netOf dr) := by
  refine ⟨by simp [netOf, h], by simp [netOf, h], fun c hc => ?_, fun p hp => ?_⟩
  · have hc : c ∈ dr.map fun v : Int => if v < 16 then 97 else 98 := hc
    rw [List.mem_map] at hc
    obtain ⟨v, _, rfl⟩ := hc
    split
    · exact .inl rfl
    · exact .inr rfl
  · have hp : p ∈ dr.map fun v : Int => ((v.fmod 4).toNat, ((v.fdiv 4).fmod 4).toNat) := hp
    rw [List.mem_map] at hp
    obtain ⟨v, _, rfl⟩ := hp
    have h1 := fmod4 v
    have h2 := fmod4 (v.fdiv 4)
    dsimp only; omega
theorem lay4 : ∀ a b c d : Fin 4, PyData.layable0 (.list [.int (a.val : Int), .int (b.val : Int), .int (c.val : Int), .int (d.val : Int)]) = true := by decide +kernel
theorem lay_cls {cs : List Nat} (h : ClsOk cs) : PyData.layable0 (.list ((cs.map fun (i : Nat) => (i : Int)).map .int)) = true := by
  match cs, h.l4, h.c with
  | [a, b, c, d], _, hc => exact lay4 ⟨a, hc a (by simp)⟩ ⟨b, hc b (by simp)⟩ ⟨c, hc c (by simp)⟩ ⟨d, hc d (by simp)⟩
theorem idx_cast (l : List Nat) (x : Nat) : (l.map fun (i : Nat) => (i : Int)).idxOf (x : Int) = l.idxOf x := by
  induction l with
  | nil => rfl
  | cons a l ih =>
    rw [List.map_cons, List.idxOf_cons, List.idxOf_cons, ih]
    have : ((a : Int) == (x : Int)) = (a == x) := by rw [Bool.eq_iff_iff]; simp; omega
    rw [this]
theorem pks_nI (l m : List Nat) : pks (nI l) (nI m) = true := pks_int _ _
theorem eqv_nI (l : List Nat) : PyData.eqvAll (pds (nI l)) (pds (nI l)) = true := by unfold nI; rw [eqv_int]; simp
theorem deps_nI (l : List Nat) : deps (nI l) ≤ 40 := by unfold nI; rw [deps_int]; decide
theorem mOf_le3 {k : Nat} (h : k < 4) : mOf k ≤ 15 := by
  have : k = 0 ∨ k = 1 ∨ k = 2 ∨ k = 3 := by omega
  rcases this with rfl | rfl | rfl | rfl <;> decide
def rhoN (N : Net) (k : Nat) : Rho := [(q "letters", .fz (lettersD N)), (q "ways", .fz (waysD N)), (q "classes", .fz (.list (nI (cls N (k - 1))))), (q "told", .own ((List.range k).map fun d => .list (nI (cls N d))))]
def rhoM (N : Net) (k : Nat) : Rho := [(q "letters", .fz (lettersD N)), (q "ways", .fz (waysD N)), (q "classes", .fz (.list (nI (cls N k)))), (q "told", .own ((List.range k).map fun d => .list (nI (cls N d)))), (q "depth", .fz (.int (k : Int))), (q "views", .fz (VD (vw N k)))]
def viewT (N : Net) (k : Nat) : D := .tup [.int (k : Int), VD (vw N k)]
section
variable {P : Program} {w' : World} {P' : Program} {loose : List Str} {mg mb : Str → Option Value} {n : Nat}
set_option maxHeartbeats 32000000 in
theorem fn_law {xs : List Int} (hx : xs.length ≤ 63) : Fn (GG P w' P' loose mg mb) (n + 40) 290 [.list (dI xs)] (.bool true) := by
  refine Fn.of (ns := [q "script"]) ⟨⟨_, rfl, rfl⟩, rfl, rfl, rfl, rfl, rfl, rfl, rfl, rfl, rfl⟩ ?_ (by decide) rfl rfl ?_
  · intro vs hv
    match vs, hv with
    | [v], _ => rfl
  have h4 : ((xs.take 4 ++ [4, 8, 12, 16].drop xs.length).map fun x : Int => x.fmod 32).length = 4 := by simp; omega
  have hm : ∀ x ∈ ((xs.take 4 ++ [4, 8, 12, 16].drop xs.length).map fun x : Int => x.fmod 32), 0 ≤ x ∧ x < 32 := by
    intro x hx
    rw [List.mem_map] at hx
    obtain ⟨y, _, rfl⟩ := hx
    have := Int.fmod_eq_emod_of_nonneg y (b := 32) (by decide)
    omega
  have eds : dI (xs.take 4 ++ [4, 8, 12, 16].drop xs.length) = (dI xs).take 4 ++ (dI [4, 8, 12, 16]).drop xs.length := by simp [dI, List.map_take, List.map_drop]
  refine Ex.cons (Ex1.assignComp (outs := dI ((xs.take 4 ++ [4, 8, 12, 16].drop xs.length).map fun x : Int => x.fmod 32)) rfl (swaps_at rfl) (tgs := [q "v"]) (by decide +kernel) unroll0 (fun _ _ => rfl) (It.list (ds := dI (xs.take 4 ++ [4, 8, 12, 16].drop xs.length)) rfl (EvL.ev (EvL.of (EvL.add (EvL.ev (EvL.upto (k := 4) (Ev.name rfl rfl) Ev.int_ (by rw [dI_length]; omega))) (EvL.ev (EvL.from_ (l := dI [4, 8, 12, 16]) (k := xs.length) (EvL.ev (EvL.disp (Evs.cons Ev.int_ (Evs.cons Ev.int_ (Evs.cons Ev.int_ (Evs.cons Ev.int_ Evs.nil (fun _ => rfl)) (fun _ => rfl)) (fun _ => rfl)) (fun _ => rfl)) (by decide))) (Ev.of (Ev.call (v := .builtin "len") ⟨by rfl, by rfl, .inr ⟨by rfl, by rfl, by decide⟩⟩ Kpr.builtin (Evs.cons (Ev.name rfl rfl) Evs.nil (fun env => rfl)) rfl (Cv.len (by rw [dI_length]; omega))) (by rw [dI_length])) (by decide))) ?_) eds.symm))) (Turns.of (Turns.one (e := D.int) (f := fun x => D.int (x.fmod 32)) (xs.take 4 ++ [4, 8, 12, 16].drop xs.length) fun x hx => ?_) (by unfold dI; rw [List.map_map]; rfl)) (by rw [dI_length, h4]; decide)) ?_
  · simp [dI]; omega
  · exact Turn.t0 (Tg.name rfl (by decide)) (Rho.sub_set (by rfl)) (Ev.bin (Ev.name rfl rfl) Ev.int_ (Op2.mod_int (by decide)))
  refine Ex.freeze (x := q "drawn") rfl ?_
  generalize ((xs.take 4 ++ [4, 8, 12, 16].drop xs.length).map fun x : Int => x.fmod 32) = dr at h4 hm ⊢
  have h := netOf_ok h4
  refine Ex.cons (Ex1.assignL (l := (netOf dr).W.map wayD) rfl (EvL.comp (tgs := [q "v"]) (by decide +kernel) unroll0 (fun _ _ => rfl) (It.list rfl (Ev.name rfl rfl)) (Turns.of (Turns.one (e := D.int) (f := fun v : Int => wayD ((v.fmod 4).toNat, ((v.fdiv 4).fmod 4).toNat)) dr fun x hx => ?_) (by simp [netOf])) (by rw [List.length_map, h.w4]; decide)) (swaps_at rfl)) ?_
  · have h1 := fmod4 x
    have h2 := fmod4 (x.fdiv 4)
    exact Turn.t0 (Tg.name rfl (by decide)) (Rho.sub_set (by rfl)) (EvL.ev (EvL.disp (ds := dI [((x.fmod 4).toNat : Int), (((x.fdiv 4).fmod 4).toNat : Int)]) (Evs.cons (Ev.of (Ev.bin (Ev.name rfl rfl) Ev.int_ (Op2.mod_int (by decide))) (congrArg D.int (by omega))) (Evs.cons (Ev.of (Ev.bin (Ev.bin (Ev.name rfl rfl) Ev.int_ (Op2.fdiv_int (by decide) (by decide))) Ev.int_ (Op2.mod_int (by decide))) (congrArg D.int (by omega))) Evs.nil (fun _ => rfl)) (fun _ => rfl)) (by show 2 ≤ 1000; decide)))
  refine Ex.freeze (x := q "ways") rfl ?_
  refine Ex.cons (Ex1.assignL (l := (netOf dr).L.map chD) rfl (EvL.comp (tgs := [q "v"]) (by decide +kernel) unroll0 (fun _ _ => rfl) (It.list rfl (Ev.name rfl rfl)) (Turns.of (Turns.one (e := D.int) (f := fun v : Int => chD (if v < 16 then 97 else 98)) dr fun x hx => ?_) (by simp [netOf])) (by rw [List.length_map, h.l4]; decide)) (swaps_at rfl)) ?_
  · have hxm := hm x hx
    refine Turn.t0 (Tg.name rfl (by decide)) (Rho.sub_set (by rfl)) (Ev.sub rfl Ev.str_ (Ev.bin (Ev.name rfl rfl) Ev.int_ (Op2.fdiv_int (by decide) (by decide))) ?_)
    have e := Int.fdiv_eq_ediv_of_nonneg x (b := 16) (by decide)
    by_cases hlt : x < 16
    · rw [if_pos hlt, show x.fdiv 16 = 0 by omega]
      exact Sub.str (by decide) (by rfl)
    · rw [if_neg hlt, show x.fdiv 16 = 1 by omega]
      exact Sub.str (by decide) (by rfl)
  refine Ex.freeze (x := q "letters") rfl ?_
  generalize netOf dr = N at h ⊢
  refine Ex.cons (Ex1.assignL (l := nI (cls N 0)) rfl (EvL.comp (tgs := [q "letter"]) (by decide +kernel) unroll0 (fun _ _ => rfl) (It.list rfl (Ev.name rfl rfl)) (Turns.of (Turns.one (e := chD) (f := fun c => D.int ((if c == letOf N 0 then 0 else 1 : Nat) : Int)) N.L fun c hc => ?_) ?_) (by rw [nI_length, (cls_ok N 0).l4]; decide)) (swaps_at rfl)) ?_
  · refine Turn.t0 (Tg.name rfl (by decide)) (Rho.sub_set (by rfl)) (Ev.of (Ev.call (v := .type "int") (ds := [.bool (sOf [c] != sOf [letOf N 0])]) ⟨by rfl, by rfl, .inr ⟨by rfl, by rfl, by decide⟩⟩ Kpr.type (Evs.cons (Ev.cmp (Ev.name rfl rfl) (Ev.sub rfl (Ev.name rfl rfl) Ev.int_ (Sub.list (by decide) (by decide) (letters_at h (i := 0) (by decide)))) Cmp.ne_str rfl) Evs.nil (fun _ => rfl)) rfl Cv.intBool) ?_)
    rw [ch_ne]
    cases c == letOf N 0 <;> rfl
  · rw [← first0 h]
    unfold nI dI
    rw [List.map_map, List.map_map]; rfl
  refine Ex.freeze (x := q "classes") rfl ?_
  refine Ex.cons (Ex1.assignL (l := []) rfl (EvL.disp Evs.nil (by decide)) (swaps_at rfl)) ?_
  refine Ex.weak (ρ' := rhoN N 0) (sub_of ?_) ?_
  · intro p hp
    simp only [rhoN, List.mem_cons, List.not_mem_nil, or_false] at hp
    rcases hp with rfl | rfl | rfl | rfl <;> rfl
  have fv := fn_views (P := P) (w' := w') (P' := P') (loose := loose) (mg := mg) (mb := mb) (n := n + 35) h (st_step h) (st_zero h)
  rw [views_fold h] at fv
  refine Ex.cons (Ex1.for_ (tgs := [q "depth", q "views"]) (out := .nx (rhoN N 4)) (fun _ _ => rfl) (It.enum (ds := ((List.range 4).map (vw N)).map VD) ⟨by rfl, by rfl, .inr ⟨by rfl, by rfl, by decide⟩⟩ (Evs.cons (Ev.call (v := .ref 263) (ds := [lettersD N, waysD N]) ⟨by rfl, by rfl, .inl (by rfl)⟩ (Kpr.of_in rfl) (Evs.cons (Ev.name rfl rfl) (Evs.cons (Ev.name rfl rfl) Evs.nil (fun _ => rfl)) (fun _ => rfl)) rfl fv) Evs.nil (fun _ => rfl)) rfl) ?_) ?_
  · show ForTo _ _ _ _ _ _ ((List.range' 0 4).map (viewT N)) (rhoN N 0) (.nx (rhoN N (0 + 4)))
    refine ForTo.turns (viewT N) (rhoN N) (M := 4) (fun k hk => ⟨_, Tg.tup2 (.inl rfl) (by decide), ?_⟩) 4 0 (by decide)
    have ck := cls_ok N k
    refine Ex.cons (ρ' := rhoM N k) ?_ ?_
    · cases k with
      | zero =>
        refine Ex1.if_ (b := false) (Tr.of (Tr.cmp (Ev.name rfl rfl) Ev.int_ Cmp.gt_int rfl) (by decide)) (Ex.weak (sub_of ?_) Ex.nil)
        intro p hp
        simp only [rhoM, List.mem_cons, List.not_mem_nil, or_false] at hp
        rcases hp with rfl | rfl | rfl | rfl | rfl | rfl <;> rfl
      | succ k =>
        have fr := fn_refined (P := P) (w' := w') (P' := P') (loose := loose) (mg := mg) (mb := mb) (n := n + 35) h (cls_ok N k)
        rw [refined_cls h k] at fr
        refine Ex1.if_ (b := true) (Tr.of (Tr.cmp (Ev.name rfl rfl) Ev.int_ Cmp.gt_int rfl) (by rw [decide_eq_true_eq]; omega)) (Ex.cons (Ex1.assign (d := .list (nI (cls N (k + 1)))) rfl (Ev.call (v := .ref 273) (ds := [.list (nI (cls N k)), waysD N]) ⟨by rfl, by rfl, .inl (by rfl)⟩ (Kpr.of_in rfl) (Evs.cons (Ev.name rfl rfl) (Evs.cons (Ev.name rfl rfl) Evs.nil (fun _ => rfl)) (fun _ => rfl)) rfl fr) (swaps_at rfl)) (Ex.weak (sub_of ?_) Ex.nil))
        intro p hp
        simp only [rhoM, List.mem_cons, List.not_mem_nil, or_false] at hp
        rcases hp with rfl | rfl | rfl | rfl | rfl | rfl <;> rfl
    refine Ex.cons (Ex1.if_ (b := false) (Tr.of (Tr.cmp (Ev.name rfl rfl) (EvL.ev (EvL.comp (outs := dS ((vw N k).map vwS)) (tgs := [q "k"]) (by decide +kernel) unroll0 (fun _ _ => rfl) (It.range1' (k := 4) rfl ⟨by rfl, by rfl, .inr ⟨by rfl, by rfl, by decide⟩⟩ (by decide) Ev.int_ rfl (fun _ => rfl)) (Turns.of (Turns.one (e := fun (i : Nat) => D.int (i : Int)) (f := fun i => D.str (vwS (rowsF N k i 1))) (List.range 4) fun i hi => ?_) ?_) ?_)) (Cmp.ne_list (pks_str _ _) (by rw [deps_str]; decide)) rfl) ?_) Ex.nil) ?_
    · have hi4 := List.mem_range.mp hi
      have hm3 := mOf_le3 hk
      have fr := fn_rows (P := P) (w' := w') (P' := P') (loose := loose) (mg := mg) (mb := mb) h n k i 1 (by omega) hi4 (by omega)
      refine Turn.t0 (Tg.name rfl (by decide)) (Rho.sub_set (by rfl)) (Ev.of (Ev.meth (b := .str (q "\r\n")) (ds := [.list (dS ((rowsF N k i 1).map sOf))]) (fun env => ⟨_, rfl⟩) Ev.str_ (Mt.str PySem.F.plainAttrs_str PySem.F.slot_str_join PySem.F.type_str_join (Cv.join ?_)) (Evs.cons (EvL.ev (EvL.call (v := .ref 278) (ds := [lettersD N, waysD N, .int ((i : Nat) : Int), .int (k : Int), .int ((1 : Nat) : Int)]) ⟨by rfl, by rfl, .inl (by rfl)⟩ (Kpr.of_in rfl) (Evs.cons (Ev.name rfl rfl) (Evs.cons (Ev.name rfl rfl) (Evs.cons (Ev.name rfl rfl) (Evs.cons (Ev.name rfl rfl) (Evs.cons Ev.int_ Evs.nil fun _ => rfl) fun _ => rfl) fun _ => rfl) fun _ => rfl) fun _ => rfl) rfl (CvL.le fr.cv (by omega)))) Evs.nil (fun _ => rfl)) rfl) ?_)
      · rw [sum_len, flat_sOf, List.length_map, rowsF_len]
        have no := num_ok h (d := k) (by omega) hi4
        have h2 := joinL_len (sep := []) (m := 10) (rows := rowsF N k i 1) fun r hr => (no.ok.row r hr).1
        rw [joinL_nil, rowsF_len] at h2
        show _ + mOf k * 2 ≤ 16777216
        simp only [List.length_nil, Nat.add_zero] at h2
        omega
      · rw [Txt_join]
        unfold vwS
        rw [jn_eq, List.map_map]
        congr 3
        exact List.map_id _
    · unfold vw dS; rw [List.map_map, List.map_map]; rfl
    · rw [dS_length, List.length_map]; unfold vw; rw [List.length_map]; decide
    · rw [eqv_str]; simp
    have hin : ∀ i, i < 4 → i ∈ (List.range (i + 1)).filter fun j => alikeF N k j i := fun i hi => List.mem_filter.mpr ⟨List.mem_range.mpr (Nat.lt_succ_self i), (alike_eqv N k).rf i⟩
    refine Ex.cons (Ex1.assignComp (outs := nI ((List.range 4).map fun i => ((List.range (i + 1)).filter fun j => alikeF N k j i).headD 0)) rfl (swaps_at rfl) (tgs := [q "k"]) (by decide +kernel) unroll0 (fun _ _ => rfl) (It.range1' (k := 4) rfl ⟨by rfl, by rfl, .inr ⟨by rfl, by rfl, by decide⟩⟩ (by decide) Ev.int_ rfl (fun _ => rfl)) (Turns.of (Turns.one (e := fun (i : Nat) => D.int (i : Int)) (f := fun i => D.int ((((List.range (i + 1)).filter fun j => alikeF N k j i).headD 0 : Nat) : Int)) (List.range 4) fun i hi => ?_) ?_) (by rw [nI_length, List.length_map]; decide)) ?_
    · have hi4 := List.mem_range.mp hi
      have hin' := hin i hi4
      refine Turn.t0 (Tg.name rfl (by decide)) (Rho.sub_set (by rfl)) (Ev.sub rfl (EvL.ev (EvL.comp (outs := ((List.range (i + 1)).filter fun j => alikeF N k j i).map fun (j : Nat) => D.int (j : Int)) (ds := (List.range (i + 1)).map fun (j : Nat) => D.int (j : Int)) (own := false) (tgs := [q "j"]) (by decide +kernel) unroll1 (fun _ _ => rfl) ?_ (Turns.of (Turns.flat (e := fun (j : Nat) => D.int (j : Int)) (f := fun j => if alikeF N k j i then [D.int (j : Int)] else []) (List.range (i + 1)) fun j hj => ?_) (flatMap_ifN _ _ _)) ?_)) Ev.int_ (Sub.list (by decide) (by decide) ?_))
      · exact It.range1N rfl ⟨by rfl, by rfl, .inr ⟨by rfl, by rfl, by decide⟩⟩ (by omega) (Ev.of (Ev.bin (Ev.name rfl rfl) Ev.int_ Op2.add_int) (congrArg D.int (by omega))) rfl (fun _ => rfl)
      · have hj4 : j < 4 := by have := List.mem_range.mp hj; omega
        have fa := fn_alike (P := P) (w' := w') (P' := P') (loose := loose) (mg := mg) (mb := mb) h n k j i (by omega) hj4 hi4
        exact Turn.t1 (Tg.name rfl (by decide)) (Rho.sub_set (by rfl)) (Tr.val (Ev.call (v := .ref 285) (ds := [lettersD N, waysD N, .int ((j : Nat) : Int), .int ((i : Nat) : Int), .int (k : Int)]) ⟨by rfl, by rfl, .inl (by rfl)⟩ (Kpr.of_in rfl) (Evs.cons (Ev.name rfl rfl) (Evs.cons (Ev.name rfl rfl) (Evs.cons (Ev.name rfl rfl) (Evs.cons (Ev.name rfl rfl) (Evs.cons (Ev.name rfl rfl) Evs.nil fun _ => rfl) fun _ => rfl) fun _ => rfl) fun _ => rfl) fun _ => rfl) rfl (Cv.le fa.cv (by omega))) Truth.bool (fun _ _ => rfl)) fun _ => Ev.name rfl rfl
      · rw [List.length_map]
        refine Nat.le_trans (List.length_filter_le _ _) ?_
        rw [List.length_range]; omega
      · cases hl : (List.range (i + 1)).filter fun j => alikeF N k j i with
        | nil => rw [hl] at hin'; cases hin'
        | cons a l => rfl
    · unfold nI dI; rw [List.map_map, List.map_map]; rfl
    refine Ex.freeze (x := q "alike") rfl ?_
    rw [← first_cls N k]
    have fnum := fn_numbers (P := P) (w' := w') (P' := P') (loose := loose) (mg := mg) (mb := mb) (n := n + 34) (V := vw N k) (by unfold vw; rw [List.length_map]; decide) (fun r hr => by
      unfold vw at hr
      rw [List.mem_map] at hr
      obtain ⟨i, hi, rfl⟩ := hr
      exact num_ok h (by omega) (List.mem_range.mp hi))
    rw [nums_cls] at fnum
    refine Ex.cons (Ex1.if_ (b := false) (Tr.or2 (b := false) (c := false) (Tr.of (Tr.cmp (EvL.ev (EvL.call (v := .ref 268) (ds := [VD (vw N k)]) (l := nI (cls N k)) ⟨by rfl, by rfl, .inl (by rfl)⟩ (Kpr.of_in rfl) (Evs.cons (Ev.name rfl rfl) Evs.nil (fun _ => rfl)) rfl fnum.cv)) (Ev.name rfl rfl) (Cmp.ne_list (pks_nI _ _) (deps_nI _)) rfl) (by rw [eqv_nI]; rfl)) (fun _ => Tr.of (Tr.cmp (EvL.ev (EvL.comp (outs := nI ((cls N k).map fun x => (cls N k).idxOf x)) (ds := (cls N k).map fun (i : Nat) => D.int (i : Int)) (tgs := [q "number"]) (by decide +kernel) unroll0 (fun _ _ => rfl) (It.list rfl (Ev.of (Ev.name rfl rfl) ?_)) (Turns.of (Turns.one (e := fun (i : Nat) => D.int (i : Int)) (f := fun x => D.int (((cls N k).idxOf x : Nat) : Int)) (cls N k) fun x hx => ?_) ?_) (by rw [nI_length, List.length_map, ck.l4]; decide))) (Ev.name rfl rfl) (Cmp.ne_list (pks_nI _ _) (deps_nI _)) rfl) (by rw [eqv_nI]; rfl)) (fun hb => nomatch hb)) Ex.nil) ?_
    · unfold nI dI; rw [List.map_map]; rfl
    · have ix := Cv.index (G := GG P w' P' loose mg mb) (n := n + 39) (l := (cls N k).map fun (i : Nat) => (i : Int)) (k := (x : Int)) (lay_cls ck) (List.mem_map.mpr ⟨x, hx, rfl⟩)
      rw [idx_cast] at ix
      exact Turn.t0 (Tg.name rfl (by decide)) (Rho.sub_set (by rfl)) (Ev.meth (b := .list (nI (cls N k))) (ds := [.int (x : Int)]) (fun env => ⟨_, rfl⟩) (Ev.name rfl rfl) (Mt.list PySem.F.slot_list_index PySem.F.type_list_index ix) (Evs.cons (Ev.name rfl rfl) Evs.nil (fun _ => rfl)) rfl)
    · unfold nI dI; rw [List.map_map, List.map_map]; rfl
    refine Ex.cons (Ex1.append (l := (List.range k).map fun d => .list (nI (cls N d))) (d := .list (nI (cls N k))) rfl rfl (fun env => ⟨_, rfl⟩) (Ev.name rfl rfl) rfl (fun _ => rfl) (by rw [List.length_map, List.length_range]; omega) (inter_at rfl) (fun _ => rfl)) ?_
    have eL : rhoN N (k + 1) = [(q "letters", .fz (lettersD N)), (q "ways", .fz (waysD N)), (q "classes", .fz (.list (nI (cls N k)))), (q "told", .own (((List.range k).map fun d => .list (nI (cls N d))) ++ [.list (nI (cls N k))]))] := by
      unfold rhoN; rw [List.range_succ, List.map_append]; rfl
    rw [eL]
    refine Ex.weak (sub_of ?_) Ex.nil
    intro p hp
    simp only [List.mem_cons, List.not_mem_nil, or_false] at hp
    rcases hp with rfl | rfl | rfl | rfl <;> rfl
  · refine Ex.leave (Ex1.ret (Ev.of (Ev.cmp (Ev.subOwn (l := (List.range 4).map fun d => .list (nI (cls N d))) (d := .list (nI (cls N 3))) rfl rfl rfl Ev.int_ (by decide) (by decide) rfl) (Ev.subOwn (l := (List.range 4).map fun d => .list (nI (cls N d))) (d := .list (nI (cls N 2))) rfl rfl rfl Ev.int_ (by decide) (by decide) rfl) (Cmp.eq_list (pks_nI _ _) (deps_nI _)) rfl) ?_))
    rw [last_same h, eqv_nI]
end
end M3
end
-- part J2
set_option maxRecDepth 100000
namespace M3
open PySem PySem.W PyProof.Rows
theorem well_list {P : Params} {h : Heap} {a : Addr} {xs : List PyData} (w : Well P h (.ref a) (ofPy (.list xs))) : ∃ us : List Value, h.get? a = some { cls := .type "list", data := .seq us.toArray } := by
  generalize hd : ofPy (.list xs) = d at w
  cases w <;> simp [ofPy] at hd
  exact ⟨_, by assumption⟩
end M3
open PySem PySem.W PyProof.Rows
set_option maxHeartbeats 8000000 in
theorem PySem.Challenge.cw_pg0303_02_holds : PySem.Challenge.rw_pg0303_02.Holds := by
  refine holds_law M3.said1 fun said => ?_
  refine holds_open (q := M3.view1) (loose := M3.loose1) (Xt := fun s => xlAt M3.view1 [] s && recOk [] s) (XP := XL M3.view1 []) (Yf := M3.hook.obs) (Ya := M3.hook.val) (YP := M3.hook.says) (d := M3.lawDK.1) (kwd := M3.lawDK.2) (N := 3670) M3.left1 (Hook.of _) (Hook.keeps _) (fun s e => xl_of s (Bool.and_eq_true_iff.mp e).1) XL.keeps M3.hdef1 M3.hp1 M3.hk1 (fun s e => recFacts_of (Bool.and_eq_true_iff.mp e).2) M3.hwr1 said M3.hok1 M3.hb1 M3.promised1 ?_
  intro w s0 s1 mg mb G Y fa o pm cd doc dV kV ho hd hcd hD hmg hg args vals as hpre hlay hrd hwl hlo
  have KX : (M3.heapK w.params).In s1.heap := kIn_of Y
  refine Ground.open G ?_
  intro T B D TE TW
  have hm : mg (Str.ofString "law") = some (.ref 290) := mg_of KX T.g (by rfl)
  have hm2 : mg (Str.ofString "law") = some (.ref fa) := (congrArg mg M3.hnm1).symm.trans hmg
  have hfa : 290 = fa := by
    have := hm.symm.trans hm2
    exact Value.ref.inj (Option.some.inj this)
  subst hfa
  have TR := topRead_of T
  clear ho hd hcd hD hmg hm hm2 T B D TE TW G Y said
  wrow_args hpre hlay hrd hwl hlo
  rename_i xs hs hlay0 hL1 hr1 hl2 w4 w3 a vs asl hL ra hwell r0 hI hr hc1 hc2
  obtain ⟨us, eu⟩ := M3.well_list hwell
  have evs : us = vs := by
    obtain ⟨o', eo', _, n, hd'⟩ := hL
    rw [eu] at eo'; cases eo'
    injection hd' with h1 h2
    exact Array.toList_inj.mpr h1
  subst evs
  refine M3.fn_law (P := PySem.Challenge.rw_pg0303_02.row.prog) (w' := w) (mg := mg) (mb := mb) (n := 0) (xs := xs) (by omega) callerA s1.heap.get? s1 [.ref a] _ _ ⟨rfl, by decide, by decide⟩ ⟨⟨s1.heap, ⟨KX, TR⟩, fun _ _ e => e⟩, trivial⟩ (fun _ _ e => e) ⟨_, _, rfl, ⟨a, us, rfl, ⟨_, eu, ⟨rfl, rfl, rfl⟩, _, rfl⟩, M3.HoldsL.ofInts hI⟩, rfl⟩ fun v Z' s' st hv => ?_
  have ev : v = .bool true := hv
  subst ev
  obtain ⟨h', tk, rfl⟩ := st.st
  exact GoodW.toG ⟨.inl ⟨_, .bool true, [], rfl, fun _ => rfl, .bool true, by wrow_post, fun _ => ⟨List.nodup_nil, by simp⟩⟩, st.keep, rfl, hg⟩
