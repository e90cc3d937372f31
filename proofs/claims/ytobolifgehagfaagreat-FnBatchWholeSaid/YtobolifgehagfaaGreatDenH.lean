/- A plain reading of Go functions, proved to be what they do; no condition. -/
/- Memory in pieces that lie apart: what a call names; what it does not name stays. -/
import Derived.Test.YtobolifgehagfaaGreatDenG
import Derived.Test.YtobolifgehagfaaGreatDenF
import Derived.Test.YtobolifgehagfaaGreatDenE
set_option linter.unusedVariables false
set_option linter.unusedSimpArgs false
namespace Go.Den
open Go

/-- A part of a heap. -/
abbrev PH := Nat → Option Obj
/-- What is said of a part of a heap. -/
def HP := PH → Prop
def PH.of (H : Heap) : PH := fun b => H[b]?
def PH.sub (h k : PH) : Prop := ∀ b o, h b = some o → k b = some o
def PH.minus (k h : PH) : PH := fun b => match h b with | some _ => none | none => k b
def PH.join (h k : PH) : PH := fun b => match h b with | some o => some o | none => k b
/-- The part k has pieces, apart from each other, of which the list's words hold. -/
def SatP : PH → List HP → Prop
  | _, [] => True
  | k, c :: l => ∃ h, c h ∧ PH.sub h k ∧ SatP (PH.minus k h) l
section
variable {h g k k' : PH} {c d : HP} {l m t : List HP}
theorem PH.sub.refl : PH.sub h h := fun _ _ x => x
theorem PH.sub.trans (a : PH.sub g h) (b : PH.sub h k) : PH.sub g k := fun i o x => b i o (a i o x)
theorem PH.minus_sub : PH.sub (PH.minus k h) k := by
  intro b o x
  unfold PH.minus at x
  split at x
  · cases x
  · exact x
theorem PH.minus_none {b : Nat} (x : h b = none) : PH.minus k h b = k b := by unfold PH.minus; rw [x]
theorem PH.minus_some {b : Nat} {o : Obj} (x : h b = some o) : PH.minus k h b = none := by unfold PH.minus; rw [x]
theorem PH.of_minus {b : Nat} {o : Obj} (x : PH.minus k h b = some o) : h b = none ∧ k b = some o := by
  unfold PH.minus at x
  split at x
  · cases x
  · rename_i e; exact ⟨e, x⟩
theorem PH.minus_mono (a : PH.sub k k') : PH.sub (PH.minus k h) (PH.minus k' h) := by
  intro b o x
  obtain ⟨x1, x2⟩ := PH.of_minus x
  rw [PH.minus_none x1]
  exact a b o x2
theorem SatP.mono : ∀ {l : List HP} {k k' : PH}, PH.sub k k' → SatP k l → SatP k' l
  | [], _, _, _, _ => trivial
  | _ :: _, _, _, a, ⟨h, h1, h2, h3⟩ => ⟨h, h1, h2.trans a, SatP.mono (PH.minus_mono a) h3⟩
theorem SatP.tail (a : SatP k (c :: l)) : SatP k l := by
  obtain ⟨h, _, _, x⟩ := a
  exact x.mono PH.minus_sub
theorem SatP.swap (a : SatP k (c :: d :: l)) : SatP k (d :: c :: l) := by
  obtain ⟨h, h1, h2, g, g1, g2, x⟩ := a
  refine ⟨g, g1, g2.trans PH.minus_sub, h, h1, ?_, x.mono ?_⟩
  · intro b o e
    have : g b = none := by
      cases hg : g b with
      | none => rfl
      | some y => have := g2 b y hg; rw [PH.minus_some e] at this; cases this
    rw [PH.minus_none this]
    exact h2 b o e
  · intro b o e
    obtain ⟨e1, e2⟩ := PH.of_minus e
    obtain ⟨e3, e4⟩ := PH.of_minus e2
    rw [PH.minus_none e3, PH.minus_none e1]
    exact e4
theorem SatP.cons_mono (f : ∀ k, SatP k l → SatP k m) (a : SatP k (c :: l)) : SatP k (c :: m) := by
  obtain ⟨h, h1, h2, x⟩ := a
  exact ⟨h, h1, h2, f _ x⟩
theorem SatP.perm (p : l.Perm m) : ∀ {k : PH}, SatP k l → SatP k m := by
  induction p with
  | nil => exact id
  | cons x _ ih => intro k a; exact a.cons_mono fun _ => ih
  | swap x y l => intro k a; exact a.swap
  | trans _ _ i1 i2 => intro k a; exact i2 (i1 a)
/-- Pieces together make one piece. -/
def star (l : List HP) : HP := fun h => SatP h l
def lift (φ : Prop) : HP := fun _ => φ
def ex {α : Type} (f : α → HP) : HP := fun h => ∃ a, f a h
def pt (r : Nat) (o : Obj) : HP := fun h => h r = some o
def old (H0 : Heap) : HP := fun h => ∀ b o, H0[b]? = some o → h b = some o
theorem minus_minus_sub (a : PH.sub g h) : PH.sub (PH.minus k h) (PH.minus (PH.minus k g) (PH.minus h g)) := by
  intro b o e
  obtain ⟨e1, e2⟩ := PH.of_minus e
  have e3 : g b = none := by
    cases hg : g b with
    | none => rfl
    | some y => have := a b y hg; rw [e1] at this; cases this
  have e4 : PH.minus h g b = none := by rw [PH.minus_none e3]; exact e1
  rw [PH.minus_none e4, PH.minus_none e3]
  exact e2
theorem star_out : ∀ {l : List HP} {h k : PH}, SatP h l → PH.sub h k → SatP (PH.minus k h) m → SatP k (l ++ m)
  | [], h, k, _, _, x => x.mono PH.minus_sub
  | c :: l, h, k, ⟨g, g1, g2, y⟩, hs, x => by
    refine ⟨g, g1, g2.trans hs, star_out (h := PH.minus h g) y ?_ (x.mono ?_)⟩
    · exact PH.minus_mono hs
    · exact minus_minus_sub g2
theorem star_in : ∀ {l : List HP} {k : PH}, SatP k (l ++ m) → ∃ h, SatP h l ∧ PH.sub h k ∧ SatP (PH.minus k h) m
  | [], k, x => ⟨fun _ => none, trivial, fun _ _ e => (by cases e), x⟩
  | c :: l, k, x => by
    obtain ⟨g, g1, g2, y⟩ := x
    obtain ⟨h, h1, h2, z⟩ := star_in (l := l) y
    refine ⟨PH.join g h, ⟨g, g1, ?_, h1.mono ?_⟩, ?_, z.mono ?_⟩
    · intro b o e; unfold PH.join; rw [e]
    · intro b o e
      have := h2 b o e
      obtain ⟨e1, e2⟩ := PH.of_minus this
      rw [PH.minus_none e1]
      unfold PH.join; rw [e1]; exact e
    · intro b o e
      unfold PH.join at e
      split at e
      · rename_i o' e'; cases e; exact g2 b _ e'
      · exact PH.minus_sub b o (h2 b o e)
    · intro b o e
      obtain ⟨e1, e2⟩ := PH.of_minus e
      obtain ⟨e3, e4⟩ := PH.of_minus e2
      have : PH.join g h b = none := by unfold PH.join; rw [e3]; exact e1
      rw [PH.minus_none this]
      exact e4
theorem SatP.star_iff : SatP k (star l :: m) ↔ SatP k (l ++ m) :=
  ⟨fun ⟨_, h1, h2, x⟩ => star_out h1 h2 x, fun x => let ⟨h, h1, h2, y⟩ := star_in x; ⟨h, h1, h2, y⟩⟩
theorem SatP.lift_iff {φ : Prop} : SatP k (lift φ :: l) ↔ φ ∧ SatP k l :=
  ⟨fun ⟨_, h1, _, x⟩ => ⟨h1, x.mono PH.minus_sub⟩, fun ⟨h1, x⟩ => ⟨fun _ => none, h1, fun _ _ e => (by cases e), x⟩⟩
theorem SatP.ex_iff {α : Type} {f : α → HP} : SatP k (ex f :: l) ↔ ∃ a, SatP k (f a :: l) :=
  ⟨fun ⟨h, ⟨a, h1⟩, h2, x⟩ => ⟨a, h, h1, h2, x⟩, fun ⟨a, h, h1, h2, x⟩ => ⟨h, ⟨a, h1⟩, h2, x⟩⟩
theorem SatP.mem : ∀ {l : List HP} {k : PH}, SatP k l → c ∈ l → ∃ h, c h ∧ PH.sub h k
  | _ :: _, _, ⟨h, h1, h2, x⟩, m => by
    rcases List.mem_cons.1 m with rfl | m
    · exact ⟨h, h1, h2⟩
    · obtain ⟨g, g1, g2⟩ := SatP.mem x m
      exact ⟨g, g1, g2.trans PH.minus_sub⟩
/-- What follows from pieces. -/
def Ent (l m : List HP) : Prop := ∀ k, SatP k l → SatP k m
/-- One piece of a list, and the others. -/
inductive Sel (c : HP) : List HP → List HP → Prop
  | here {l : List HP} : Sel c (c :: l) l
  | there {d : HP} {l r : List HP} : Sel c l r → Sel c (d :: l) (d :: r)
theorem Sel.perm {r : List HP} (s : Sel c l r) : l.Perm (c :: r) := by
  induction s with
  | here => exact .refl _
  | there _ ih => exact (ih.cons _).trans (.swap _ _ _)
theorem Ent.refl : Ent l l := fun _ a => a
theorem Ent.trans (a : Ent l m) (b : Ent m t) : Ent l t := fun k x => b k (a k x)
theorem Ent.nil : Ent l [] := fun _ _ => trivial
theorem Ent.drop (a : Ent l t) : Ent (c :: l) t := fun _ x => a _ x.tail
theorem Ent.cons (a : Ent l t) : Ent (c :: l) (c :: t) := fun _ x => x.cons_mono a
theorem Ent.pick {r : List HP} (s : Sel c l r) (a : Ent r t) : Ent l (c :: t) := fun _ x => (SatP.perm s.perm x).cons_mono a
theorem Ent.bring {r : List HP} (s : Sel c l r) : Ent l (c :: r) := fun _ x => SatP.perm s.perm x
theorem Ent.ex {α : Type} {f : α → HP} (a : α) (e : Ent l (f a :: t)) : Ent l (Den.ex f :: t) := fun k x => SatP.ex_iff.2 ⟨a, e k x⟩
theorem Ent.exL {α : Type} {f : α → HP} (e : ∀ a, Ent (f a :: l) t) : Ent (Den.ex f :: l) t := fun k x => by
  obtain ⟨a, x⟩ := SatP.ex_iff.1 x
  exact e a k x
theorem Ent.star (e : Ent l (m ++ t)) : Ent l (Den.star m :: t) := fun k x => SatP.star_iff.2 (e k x)
theorem Ent.starL (e : Ent (m ++ l) t) : Ent (Den.star m :: l) t := fun k x => e k (SatP.star_iff.1 x)
theorem Ent.lift {φ : Prop} (p : φ) (e : Ent l t) : Ent l (Den.lift φ :: t) := fun k x => SatP.lift_iff.2 ⟨p, e k x⟩
theorem Ent.liftL {φ : Prop} (e : φ → Ent l t) : Ent (Den.lift φ :: l) t := fun k x => let ⟨p, y⟩ := SatP.lift_iff.1 x; e p k y
theorem Ent.first {d : HP} (h : ∀ k, c k → d k) : Ent (c :: l) (d :: l) := fun k ⟨g, g1, g2, x⟩ => ⟨g, h g g1, g2, x⟩
theorem Ent.append {m' : List HP} (a : Ent l m) (b : Ent t m') : Ent (l ++ t) (m ++ m') := fun k x => by
  obtain ⟨h, h1, h2, y⟩ := star_in x
  exact star_out (a h h1) h2 (b _ y)
end
/-- The heap has these pieces. -/
class Sat (H : Heap) (l : outParam (List HP)) : Prop where
  out : SatP (PH.of H) l
section
variable {H H1 : Heap} {l m t : List HP} {c : HP}
theorem Sat.to (S : Sat H l) (e : Ent l m) : Sat H m := ⟨e _ S.out⟩
theorem Sat.ext (S : Sat H l) (e : ExtH H H1) : Sat H1 l := ⟨S.out.mono fun b o x => e.block_some x⟩
theorem Sat.start (H : Heap) : Sat H [old H] := ⟨PH.of H, fun b o x => x, PH.sub.refl, trivial⟩
theorem Sat.nil (H : Heap) : Sat H [] := ⟨trivial⟩
theorem Sat.push (S : Sat H l) (o : Obj) : Sat (H.push o) (pt H.size o :: l) := by
  refine ⟨fun b => if b = H.size then some o else none, if_pos rfl, ?_, S.out.mono ?_⟩
  · intro b x e
    dsimp only at e
    by_cases hb : b = H.size
    · subst hb; rw [if_pos rfl] at e; unfold PH.of; rw [Array.getElem?_push, if_pos rfl]; exact e
    · rw [if_neg hb] at e; cases e
  · intro b x e
    have hb : b < H.size := block_lt e
    rw [PH.minus_none (if_neg (by omega))]
    exact (ExtH.push H o).block_some e
theorem Sat.mem (S : Sat H l) (hm : c ∈ l) : ∃ h, c h ∧ PH.sub h (PH.of H) := S.out.mem hm
theorem Sat.at_ (S : Sat H l) {r : Nat} {o : Obj} (hm : pt r o ∈ l) : H[r]? = some o := by
  obtain ⟨h, h1, h2⟩ := S.mem hm
  exact h2 _ _ h1
theorem Sat.old (S : Sat H l) {H0 : Heap} (hm : Den.old H0 ∈ l) : ExtH H0 H := by
  obtain ⟨h, h1, h2⟩ := S.mem hm
  have key : ∀ b o, H0[b]? = some o → H[b]? = some o := fun b o e => h2 _ _ (h1 b o e)
  refine ⟨?_, fun b hb => ?_⟩
  · rcases Nat.lt_or_ge H.size H0.size with hlt | hge
    · have := block_lt (key H.size _ (Array.getElem?_eq_getElem hlt)); omega
    · exact hge
  · rw [key b _ (Array.getElem?_eq_getElem hb), Array.getElem?_eq_getElem hb]
/-- One block turns. -/
theorem SatP.upd {r : Nat} {o o' : Obj} {l : List HP} {H H1 : Heap} (S : SatP (PH.of H) (pt r o :: l)) (u : Upd r o' H H1) : SatP (PH.of H1) (pt r o' :: l) := by
  obtain ⟨h, h1, h2, x⟩ := S
  refine ⟨fun b => if b = r then some o' else none, if_pos rfl, ?_, x.mono ?_⟩
  · intro b y e
    dsimp only at e
    by_cases hb : b = r
    · subst hb; rw [if_pos rfl] at e; cases e; exact u.at_
    · rw [if_neg hb] at e; cases e
  · intro b y e
    obtain ⟨e1, e2⟩ := PH.of_minus e
    have hb : b ≠ r := by intro hh; subst hh; rw [show h b = some o from h1] at e1; cases e1
    rw [PH.minus_none (if_neg hb)]
    have hl : b < H.size := block_lt e2
    unfold PH.of at e2 ⊢
    rw [u.same b hl hb]; exact e2
theorem Sat.upd {r : Nat} {o o' : Obj} (S : Sat H (pt r o :: l)) (u : Upd r o' H H1) : Sat H1 (pt r o' :: l) := ⟨SatP.upd S.out u⟩
theorem Sat.ne (S : Sat H l) {r r' : Nat} {o o' : Obj} {x y : List HP} (h1 : Sel (pt r o) l x) (h2 : Sel (pt r' o') x y) : r ≠ r' := by
  have := SatP.perm h1.perm S.out
  obtain ⟨h, a, b, c⟩ := this
  obtain ⟨g, a', b', c'⟩ := SatP.perm h2.perm c
  rintro rfl
  have := b' _ _ a'
  rw [PH.minus_some a] at this
  cases this
theorem Sat.ex {α : Type} {f : α → HP} (S : Sat H (Den.ex f :: l)) : ∃ a, Sat H (f a :: l) := let ⟨a, x⟩ := SatP.ex_iff.1 S.out; ⟨a, ⟨x⟩⟩
theorem Sat.star (S : Sat H (Den.star m :: l)) : Sat H (m ++ l) := ⟨SatP.star_iff.1 S.out⟩
theorem Sat.lift {φ : Prop} (S : Sat H (Den.lift φ :: l)) : φ ∧ Sat H l := let ⟨p, x⟩ := SatP.lift_iff.1 S.out; ⟨p, ⟨x⟩⟩
theorem Sat.bring (S : Sat H l) {r : List HP} (s : Sel c l r) : Sat H (c :: r) := S.to (Ent.bring s)
end
end Go.Den
