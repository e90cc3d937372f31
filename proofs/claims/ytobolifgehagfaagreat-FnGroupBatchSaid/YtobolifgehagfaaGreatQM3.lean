/- What functions of this seat do, each proved by a walk; no condition. -/
import Derived.Test.YtobolifgehagfaaGreatRM
import Derived.Test.YtobolifgehagfaaGreatRC
import Derived.Test.YtobolifgehagfaaGreatDenZC
import Derived.Test.YtobolifgehagfaaGreatRB
set_option linter.unusedVariables false
set_option linter.unusedSimpArgs false
set_option linter.unnecessarySimpa false
namespace Go.Proofs.YtobolifgehagfaaGreat
open Go Go.Den Go.Proofs
abbrev SE := Int
abbrev seC (x : SE) : List Value := [.int .i64 x]
def seLt (x y : SE) : Bool := decide (x < y)
theorem seLin : Lin seLt := ⟨fun x => decide_eq_false (Int.lt_irrefl x), fun x y z h1 h2 => decide_eq_true (Int.lt_trans (of_decide_eq_true h1) (of_decide_eq_true h2)), fun x y h => by
  have h := of_decide_eq_false h
  rcases Int.lt_trichotomy x y with h1 | h1 | h1
  · exact absurd h1 h
  · exact .inl h1
  · exact .inr (decide_eq_true h1)⟩
def InsInv {α : Type} (lt : α → α → Bool) (a i j : Nat) (ys : List α) : Prop :=
  (∀ p q x y, a ≤ p → p < q → q ≤ i → p ≠ j → q ≠ j → ys[p]? = some x → ys[q]? = some y → lt x y = true) ∧
  (∀ q x y, j < q → q ≤ i → ys[j]? = some x → ys[q]? = some y → lt x y = true)
theorem InsInv.step {α : Type} {lt : α → α → Bool} {a i j : Nat} {ys : List α} {u v : α} (h : InsInv lt a i j ys) (hj : a < j) (hji : j ≤ i) (hv : ys[j]? = some v) (hu : ys[j - 1]? = some u) (hlt : lt v u = true) : InsInv lt a i (j - 1) (swp ys j (j - 1) v u) := by
  obtain ⟨h1, h2⟩ := h
  refine ⟨fun p q x y c1 c2 c3 c4 c5 e1 e2 => ?_, fun q x y c1 c2 e1 e2 => ?_⟩
  · rw [swp_get hv hu, if_neg c4] at e1
    rw [swp_get hv hu, if_neg c5] at e2
    by_cases hp : p = j
    · rw [if_pos hp] at e1
      rw [if_neg (by omega)] at e2
      cases e1
      exact h1 (j - 1) q u y (by omega) (by omega) c3 (by omega) (by omega) hu e2
    · rw [if_neg hp] at e1
      by_cases hq : q = j
      · rw [if_pos hq] at e2
        cases e2
        exact h1 p (j - 1) x u c1 (by omega) (by omega) hp (by omega) e1 hu
      · rw [if_neg hq] at e2
        exact h1 p q x y c1 c2 c3 hp hq e1 e2
  · rw [swp_get hv hu, if_pos rfl] at e1
    cases e1
    rw [swp_get hv hu, if_neg (by omega)] at e2
    by_cases hq : q = j
    · rw [if_pos hq] at e2; cases e2; exact hlt
    · rw [if_neg hq] at e2
      exact h2 q v y (by omega) c2 hv e2
theorem InsInv.done {α : Type} {lt : α → α → Bool} (L : Lin lt) {a i j : Nat} {ys : List α} (h : InsInv lt a i j ys) (hd : Dif ys) (hji : a ≤ j ∧ j ≤ i) (hl : i < ys.length) (hst : j = a ∨ ∃ v u, ys[j]? = some v ∧ ys[j - 1]? = some u ∧ lt v u = false) : SoR lt a (i + 1) ys := by
  intro p q x y c1 c2 c3 e1 e2
  by_cases hp : p = j
  · subst hp; exact h.2 q x y c2 (by omega) e1 e2
  · by_cases hq : q = j
    · subst hq
      rcases hst with hst | ⟨v, u, h1, h2, h3⟩
      · omega
      · rw [e2] at h1; cases h1
        have huy : lt u y = true := by
          rcases L.tot y u h3 with h4 | h4
          · subst h4
            have := hd q (q - 1) y e2 h2
            omega
          · exact h4
        by_cases hpq : p = q - 1
        · subst hpq; rw [h2] at e1; cases e1; exact huy
        · exact L.tr _ _ _ (h.1 p (q - 1) x u c1 (by omega) (by omega) hp (by omega) e1 h2) huy
    · exact h.1 p q x y c1 c2 (by omega) hp hq e1 e2
theorem InsInv.start {α : Type} {lt : α → α → Bool} {a i : Nat} {ys : List α} (h : SoR lt a i ys) : InsInv lt a i i ys :=
  ⟨fun p q x y c1 c2 c3 c4 c5 e1 e2 => h p q x y c1 c2 (by omega) e1 e2, fun q x y c1 c2 => by omega⟩
section
variable {H H0 : Heap} {l : List HP}
end
end Go.Proofs.YtobolifgehagfaaGreat

set_option linter.unusedVariables false
set_option linter.unusedSimpArgs false
set_option linter.unnecessarySimpa false
namespace Go.Proofs.YtobolifgehagfaaGreat
open Go Go.Den Go.Proofs
structure PInv (a b : Nat) (pv : SE) (i j : Nat) (ys : List SE) : Prop where
  at_ : ys[a]? = some pv
  lo : ∀ k x, a < k → k < i → ys[k]? = some x → seLt x pv = true
  hi : ∀ k x, j < k → k < b → ys[k]? = some x → seLt x pv = false
  ai : a < i
  ij : i ≤ j + 1
  jb : j < b
theorem PInv.up {a b i j : Nat} {pv x : SE} {ys : List SE} (h : PInv a b pv i j ys) (hij : i ≤ j) (hx : ys[i]? = some x) (hlt : seLt x pv = true) : PInv a b pv (i + 1) j ys :=
  ⟨h.at_, fun k y h1 h2 h3 => by
    by_cases hk : k = i
    · subst hk; rw [hx] at h3; cases h3; exact hlt
    · exact h.lo k y h1 (by omega) h3, h.hi, by have := h.ai; omega, by omega, h.jb⟩
theorem PInv.down {a b i j : Nat} {pv x : SE} {ys : List SE} (h : PInv a b pv i j ys) (hij : i ≤ j) (hx : ys[j]? = some x) (hlt : seLt x pv = false) : PInv a b pv i (j - 1) ys :=
  ⟨h.at_, h.lo, fun k y h1 h2 h3 => by
    by_cases hk : k = j
    · subst hk; rw [hx] at h3; cases h3; exact hlt
    · exact h.hi k y (by omega) h2 h3, h.ai, by have := h.ai; omega, by have := h.jb; omega⟩
theorem PInv.sw {a b i j : Nat} {pv x y : SE} {ys : List SE} (h : PInv a b pv i j ys) (hij : i < j) (hx : ys[i]? = some x) (hy : ys[j]? = some y) (h1 : seLt x pv = false) (h2 : seLt y pv = true) : PInv a b pv (i + 1) (j - 1) (swp ys i j x y) := by
  have hai := h.ai
  have hjb := h.jb
  refine ⟨?_, fun k z k1 k2 k3 => ?_, fun k z k1 k2 k3 => ?_, by omega, by omega, by omega⟩
  · rw [swp_get hx hy, if_neg (by omega), if_neg (by omega)]; exact h.at_
  · rw [swp_get hx hy, if_neg (by omega)] at k3
    by_cases hk : k = i
    · rw [if_pos hk] at k3; cases k3; exact h2
    · rw [if_neg hk] at k3; exact h.lo k z k1 (by omega) k3
  · rw [swp_get hx hy] at k3
    by_cases hk : k = j
    · rw [if_pos hk] at k3; cases k3; exact h1
    · rw [if_neg hk, if_neg (by omega)] at k3; exact h.hi k z (by omega) k2 k3
def Parted (a b mid : Nat) (ys : List SE) : Prop := a ≤ mid ∧ mid < b ∧ ∃ pv, ys[mid]? = some pv ∧ (∀ k x, a ≤ k → k < mid → ys[k]? = some x → seLt x pv = true) ∧ ∀ k x, mid < k → k < b → ys[k]? = some x → seLt x pv = false
theorem PInv.fin {a b i j : Nat} {pv x : SE} {ys : List SE} (h : PInv a b pv i j ys) (hij : j < i) (hx : ys[j]? = some x) : Parted a b j (swp ys j a x pv) := by
  have hai := h.ai
  have hjb := h.jb
  have hij2 := h.ij
  refine ⟨by omega, hjb, pv, ?_, fun k z k1 k2 k3 => ?_, fun k z k1 k2 k3 => ?_⟩
  · rw [swp_get hx h.at_]
    by_cases hja : j = a
    · rw [if_pos hja]; subst hja; rw [h.at_] at hx; exact hx.symm
    · rw [if_neg hja, if_pos rfl]
  · rw [swp_get hx h.at_] at k3
    by_cases hk : k = a
    · rw [if_pos hk] at k3; cases k3
      exact h.lo j x (by omega) (by omega) hx
    · rw [if_neg hk, if_neg (by omega)] at k3
      exact h.lo k z (by omega) (by omega) k3
  · rw [swp_get hx h.at_, if_neg (by omega), if_neg (by omega)] at k3
    exact h.hi k z k1 k2 k3
section
variable {H H0 : Heap} {l : List HP}
end
end Go.Proofs.YtobolifgehagfaaGreat

set_option linter.unusedVariables false
set_option linter.unusedSimpArgs false
set_option linter.unnecessarySimpa false
namespace Go.Proofs.YtobolifgehagfaaGreat
open Go Go.Den Go.Proofs
section
variable {H H0 : Heap} {l : List HP}
end
end Go.Proofs.YtobolifgehagfaaGreat

set_option linter.unusedVariables false
set_option linter.unusedSimpArgs false
set_option linter.unnecessarySimpa false
namespace Go.Proofs.YtobolifgehagfaaGreat
open Go Go.Den Go.Proofs
def Low (a b : Nat) (xs : List SE) : Prop := a = 0 ∨ ∃ w, xs[a - 1]? = some w ∧ ∀ k x, a ≤ k → k < b → xs[k]? = some x → seLt w x = true
theorem Low.rp {a b : Nat} {xs ys : List SE} (h : Low a b xs) (r : RP a b xs ys) : Low a b ys := by
  rcases h with h | ⟨w, h1, h2⟩
  · exact .inl h
  · by_cases ha : a = 0
    · exact .inl ha
    · refine .inr ⟨w, by rw [r.out (.inl (by omega))]; exact h1, fun k x k1 k2 k3 => ?_⟩
      obtain ⟨i, i1, i2, i3⟩ := r.mem k1 k2 k3
      exact h2 i x i1 i2 i3
theorem SoR.sw {a m i j : Nat} {xs : List SE} {x y : SE} (h : SoR seLt a m xs) (hi : xs[i]? = some x) (hj : xs[j]? = some y) (h1 : m ≤ i) (h2 : m ≤ j) : SoR seLt a m (swp xs i j x y) := by
  intro p q u v c1 c2 c3 e1 e2
  rw [swp_get hi hj, if_neg (by omega), if_neg (by omega)] at e1 e2
  exact h p q u v c1 c2 c3 e1 e2
theorem SoR.less {a m m' : Nat} {xs : List SE} (h : SoR seLt a m xs) (hm : m' ≤ m) : SoR seLt a m' xs := fun p q x y c1 c2 c3 => h p q x y c1 c2 (by omega)
theorem SoR.more {a m : Nat} {xs : List SE} {x y : SE} (hd : Dif xs) (h : SoR seLt a m xs) (ham : a < m) (hx : xs[m]? = some x) (hy : xs[m - 1]? = some y) (hlt : seLt x y = false) : SoR seLt a (m + 1) xs := by
  have hyx : seLt y x = true := by
    rcases seLin.tot x y hlt with h1 | h1
    · subst h1
      have := hd m (m - 1) x hx hy
      omega
    · exact h1
  intro p q u v c1 c2 c3 e1 e2
  by_cases hq : q = m
  · subst hq
    rw [hx] at e2; cases e2
    by_cases hp : p = q - 1
    · subst hp; rw [hy] at e1; cases e1; exact hyx
    · exact seLin.tr _ _ _ (h p (q - 1) u y c1 (by omega) (by omega) e1 hy) hyx
  · exact h p q u v c1 c2 (by omega) e1 e2
section
variable {H H0 : Heap} {l : List HP}
end
end Go.Proofs.YtobolifgehagfaaGreat

set_option linter.unusedVariables false
set_option linter.unusedSimpArgs false
set_option linter.unnecessarySimpa false
namespace Go.Proofs.YtobolifgehagfaaGreat
open Go Go.Den Go.Proofs
section
variable {H H0 : Heap} {l : List HP}
end
end Go.Proofs.YtobolifgehagfaaGreat

set_option linter.unusedVariables false
set_option linter.unusedSimpArgs false
set_option linter.unnecessarySimpa false
namespace Go.Proofs.YtobolifgehagfaaGreat
open Go Go.Den Go.Proofs
section
variable {H H0 : Heap} {l : List HP}
end
end Go.Proofs.YtobolifgehagfaaGreat

set_option linter.unusedVariables false
set_option linter.unusedSimpArgs false
set_option linter.unnecessarySimpa false
namespace Go.Proofs.YtobolifgehagfaaGreat
open Go Go.Den Go.Proofs
theorem joined {a b mid : Nat} {zs ws vs : List SE} (hd : Dif zs) (hp : Parted a b mid zs) (r1 : RP a mid zs ws) (s1 : SoR seLt a mid ws) (r2 : RP (mid + 1) b ws vs) (s2 : SoR seLt (mid + 1) b vs) : SoR seLt a b vs := by
  obtain ⟨p1, p2, pv, h1, h2, h3⟩ := hp
  have hpv : vs[mid]? = some pv := by rw [r2.out (.inl (by omega)), r1.out (.inr (by omega))]; exact h1
  have left : ∀ k x, a ≤ k → k < mid → vs[k]? = some x → seLt x pv = true := by
    intro k x k1 k2 e
    rw [r2.out (.inl (by omega))] at e
    obtain ⟨i, i1, i2, i3⟩ := r1.mem k1 k2 e
    exact h2 i x i1 i2 i3
  have right : ∀ k x, mid < k → k < b → vs[k]? = some x → seLt pv x = true := by
    intro k x k1 k2 e
    obtain ⟨i, i1, i2, i3⟩ := r2.mem (by omega) k2 e
    rw [r1.out (.inr (by omega))] at i3
    rcases seLin.tot x pv (h3 i x (by omega) i2 i3) with h4 | h4
    · subst h4
      have := hd i mid x i3 h1
      omega
    · exact h4
  intro i j x y c1 c2 c3 e1 e2
  by_cases hj : j < mid
  · rw [r2.out (.inl (by omega))] at e1 e2
    exact s1 i j x y c1 c2 hj e1 e2
  · by_cases hjm : j = mid
    · subst hjm; rw [hpv] at e2; cases e2
      exact left i x c1 c2 e1
    · by_cases hi : i < mid
      · exact seLin.tr _ _ _ (left i x c1 hi e1) (right j y (by omega) c3 e2)
      · by_cases him : i = mid
        · subst him; rw [hpv] at e1; cases e1
          exact right j y (by omega) c3 e2
        · exact s2 i j x y (by omega) c2 c3 e1 e2
theorem Parted.low {a b mid : Nat} {zs : List SE} (hd : Dif zs) (hp : Parted a b mid zs) : Low (mid + 1) b zs := by
  obtain ⟨p1, p2, pv, h1, h2, h3⟩ := hp
  refine .inr ⟨pv, h1, fun k x k1 k2 e => ?_⟩
  rcases seLin.tot x pv (h3 k x (by omega) k2 e) with h4 | h4
  · subst h4
    have := hd k mid x e h1
    omega
  · exact h4
theorem Low.left {a b m : Nat} {xs : List SE} (h : Low a b xs) (hm : m ≤ b) : Low a m xs := by
  rcases h with h | ⟨w, h1, h2⟩
  · exact .inl h
  · exact .inr ⟨w, h1, fun k x k1 k2 => h2 k x k1 (by omega)⟩
end Go.Proofs.YtobolifgehagfaaGreat

set_option linter.unusedVariables false
set_option linter.unusedSimpArgs false
set_option linter.unnecessarySimpa false
namespace Go.Proofs.YtobolifgehagfaaGreat
open Go Go.Den Go.Proofs
abbrev ASl (A : Addr) (n c : Nat) (xs : List SE) (l : List HP) : List HP := sl seC 2 1 (some A) n c xs :: l
def Loops (A : Addr) (n c m : Nat) (l : List HP) : Prop := ∀ (a b : Nat) (lim : Int) (bal par : Bool) (xs : List SE) (H : Heap) (R : Ending → Heap → Prop), b - a ≤ m → a ≤ b → b ≤ n → 0 ≤ lim ∧ lim ≤ 100 → Dif xs → Low a b xs → Sat H (ASl A n c xs l) →
  (∀ H1 ys, RP a b xs ys → SoR seLt a b ys → Sat H1 (ASl A n c ys l) → R (.returned (.tuple ⟨[]⟩)) H1) → F57.L0 (some A) n c (a : Nat) (b : Nat) lim bal par H R
theorem Loops.call {A : Addr} {n c m : Nat} {l : List HP} (h : Loops A n c m l) {a b : Nat} {lim : Int} {xs : List SE} {H : Heap} (h1 : b - a ≤ m) (h2 : a ≤ b) (h3 : b ≤ n) (h4 : 0 ≤ lim ∧ lim ≤ 100) (hd : Dif xs) (hl : Low a b xs) (S : Sat H (ASl A n c xs l)) :
    CallsH Tryz.prog 57 ⟨[.slice (some A) n c, .int .i64 (a : Nat), .int .i64 (b : Nat), .int .i64 lim]⟩ H (fun e H1 => e = .returned (.tuple ⟨[]⟩) ∧ ∃ ys, RP a b xs ys ∧ SoR seLt a b ys ∧ Sat H1 (ASl A n c ys l)) := by
  refine F57.calls ?_
  unfold F57.go
  exact h a b lim true true xs H _ h1 h2 h3 h4 hd hl S fun H1 ys r s S1 => ⟨rfl, ys, r, s, S1⟩
end Go.Proofs.YtobolifgehagfaaGreat

set_option linter.unusedVariables false
set_option linter.unusedSimpArgs false
set_option linter.unnecessarySimpa false
namespace Go.Proofs.YtobolifgehagfaaGreat
open Go Go.Den Go.Proofs
abbrev kid (i c : Nat) : Prop := c = 2 * i + 1 ∨ c = 2 * i + 2
def HeapF (f lo hi : Nat) (ys : List SE) : Prop := ∀ i c x y, lo ≤ i → kid i c → c < hi → ys[f + i]? = some x → ys[f + c]? = some y → seLt x y = false
def HoleF (f lo hi r : Nat) (ys : List SE) : Prop :=
  (∀ i c x y, lo ≤ i → i ≠ r → kid i c → c < hi → ys[f + i]? = some x → ys[f + c]? = some y → seLt x y = false) ∧
  (∀ p c x y, lo ≤ p → kid p r → kid r c → c < hi → ys[f + p]? = some x → ys[f + c]? = some y → seLt x y = false)
theorem HoleF.start {f lo hi : Nat} {ys : List SE} (h : HeapF f (lo + 1) hi ys) : HoleF f lo hi lo ys :=
  ⟨fun i c x y h1 h2 h3 h4 e1 e2 => h i c x y (by omega) h3 h4 e1 e2, fun p c x y h1 h2 => by rcases h2 with h2 | h2 <;> omega⟩
theorem HoleF.stop {f lo hi r : Nat} {ys : List SE} (h : HoleF f lo hi r ys) (hr : ∀ c x y, kid r c → c < hi → ys[f + r]? = some x → ys[f + c]? = some y → seLt x y = false) : HeapF f lo hi ys := by
  intro i c x y h1 h2 h3 e1 e2
  by_cases hi : i = r
  · subst hi; exact hr c x y h2 h3 e1 e2
  · exact h.1 i c x y h1 hi h2 h3 e1 e2
theorem HoleF.down {f lo hi r c : Nat} {ys : List SE} {x y : SE} (h : HoleF f lo hi r ys) (hlo : lo ≤ r) (hk : kid r c) (hc : c < hi) (hx : ys[f + r]? = some x) (hy : ys[f + c]? = some y) (hlt : seLt x y = true)
    (hm : ∀ c' z, kid r c' → c' < hi → ys[f + c']? = some z → seLt y z = false) : HoleF f lo hi c (swp ys (f + r) (f + c) x y) := by
  have asym : seLt y x = false := by
    cases h1 : seLt y x with
    | false => rfl
    | true => have := seLin.tr _ _ _ hlt h1; rw [seLin.irr] at this; cases this
  refine ⟨fun i d u v h1 h2 h3 h4 e1 e2 => ?_, fun p d u v h1 h2 h3 h4 e1 e2 => ?_⟩
  · rw [swp_get hx hy, if_neg (by omega)] at e1
    rw [swp_get hx hy] at e2
    by_cases hir : i = r
    · rw [if_pos (by omega)] at e1
      cases e1
      by_cases hdc : d = c
      · rw [if_pos (by omega)] at e2; cases e2; exact asym
      · rw [if_neg (by omega), if_neg (by rcases h3 with h3 | h3 <;> omega)] at e2
        subst hir
        exact hm d v h3 h4 e2
    · rw [if_neg (by omega)] at e1
      rw [if_neg (by rcases h3 with h3 | h3 <;> rcases hk with hk | hk <;> omega)] at e2
      by_cases hdr : d = r
      · rw [if_pos (by omega)] at e2
        cases e2
        subst hdr
        exact h.2 i c u y h1 h3 hk hc e1 hy
      · rw [if_neg (by omega)] at e2
        exact h.1 i d u v h1 hir h3 h4 e1 e2
  · have hpr : p = r := by rcases h2 with h2 | h2 <;> rcases hk with hk | hk <;> omega
    subst hpr
    rw [swp_get hx hy, if_neg (by rcases hk with hk | hk <;> omega), if_pos rfl] at e1
    cases e1
    rw [swp_get hx hy, if_neg (by rcases h3 with h3 | h3 <;> omega), if_neg (by rcases h3 with h3 | h3 <;> rcases hk with hk | hk <;> omega)] at e2
    exact h.1 c d y v (by rcases hk with hk | hk <;> omega) (by rcases hk with hk | hk <;> omega) h3 h4 hy e2
end Go.Proofs.YtobolifgehagfaaGreat

set_option linter.unusedVariables false
set_option linter.unusedSimpArgs false
set_option linter.unnecessarySimpa false
namespace Go.Proofs.YtobolifgehagfaaGreat
open Go Go.Den Go.Proofs
section
variable {H H0 : Heap} {l : List HP}
end
end Go.Proofs.YtobolifgehagfaaGreat

set_option linter.unusedVariables false
set_option linter.unusedSimpArgs false
set_option linter.unnecessarySimpa false
namespace Go.Proofs.YtobolifgehagfaaGreat
open Go Go.Den Go.Proofs
theorem heap_top {f hi : Nat} {ys : List SE} {x : SE} (h : HeapF f 0 hi ys) (hx : ys[f]? = some x) : ∀ (k : Nat) (y : SE), k < hi → ys[f + k]? = some y → seLt x y = false := by
  intro k
  induction k using Nat.strongRecOn with
  | ind k ih =>
  intro y hk hy
  by_cases h0 : k = 0
  · subst h0
    rw [Nat.add_zero, hx] at hy
    cases hy
    exact seLin.irr x
  · obtain ⟨z, hz⟩ : ∃ z, ys[f + (k - 1) / 2]? = some z := get_of (by have := lt_of hy; omega)
    have h1 := ih ((k - 1) / 2) (by omega) z (by omega) hz
    have h2 := h ((k - 1) / 2) k z y (by omega) (by unfold kid; omega) hk hz hy
    cases h3 : seLt x y with
    | false => rfl
    | true =>
      rcases seLin.tot x z h1 with h4 | h4
      · subst h4; rw [h2] at h3; cases h3
      · have := seLin.tr _ _ _ h4 h3; rw [h2] at this; cases this
def TailF (f i hi : Nat) (ys : List SE) : Prop :=
  SoR seLt (f + i) (f + hi) ys ∧ ∀ p q x y, p < i → i ≤ q → q < hi → ys[f + p]? = some x → ys[f + q]? = some y → seLt x y = true
theorem heap_swap {f i : Nat} {ys : List SE} {x y : SE} (h : HeapF f 0 (i + 1) ys) (hx : ys[f]? = some x) (hy : ys[f + i]? = some y) : HeapF f 1 i (swp ys f (f + i) x y) := by
  intro j c u v h1 h2 h3 e1 e2
  rw [swp_get hx hy, if_neg (by rcases h2 with h2 | h2 <;> omega), if_neg (by omega)] at e1
  rw [swp_get hx hy, if_neg (by omega), if_neg (by rcases h2 with h2 | h2 <;> omega)] at e2
  exact h j c u v (by omega) h2 (by omega) e1 e2
theorem tail_next {f i hi : Nat} {ys ws : List SE} {x y : SE} (hd : Dif ys) (h : HeapF f 0 (i + 1) ys) (ht : TailF f (i + 1) hi ys) (hi' : i < hi) (hx : ys[f]? = some x) (hy : ys[f + i]? = some y) (r : RP f (f + i) (swp ys f (f + i) x y) ws) : TailF f i hi ws := by
  have atI : ws[f + i]? = some x := by rw [r.out (.inr (Nat.le_refl _)), swp_get hx hy, if_pos rfl]
  have beyond : ∀ q, i < q → ws[f + q]? = ys[f + q]? := fun q hq => by
    rw [r.out (.inr (by omega)), swp_get hx hy, if_neg (by omega), if_neg (by omega)]
  have within : ∀ p u, p < i → ws[f + p]? = some u → ∃ k, k ≤ i ∧ k ≠ 0 ∧ ys[f + k]? = some u := by
    intro p u hp hu
    obtain ⟨m, m1, m2, m3⟩ := r.mem (k := f + p) (by omega) (by omega) hu
    rw [swp_get hx hy, if_neg (by omega)] at m3
    by_cases hm : m = f
    · rw [if_pos hm] at m3
      cases m3
      exact ⟨i, Nat.le_refl _, by omega, hy⟩
    · rw [if_neg hm] at m3
      exact ⟨m - f, by omega, by omega, by rw [show f + (m - f) = m by omega]; exact m3⟩
  refine ⟨fun p q u v h1 h2 h3 e1 e2 => ?_, fun p q u v h1 h2 h3 e1 e2 => ?_⟩
  · have e2' := e2
    rw [show q = f + (q - f) by omega, beyond (q - f) (by omega)] at e2'
    by_cases hp : p = f + i
    · subst hp
      rw [atI] at e1
      cases e1
      exact ht.2 0 (q - f) x v (by omega) (by omega) (by omega) hx e2'
    · have e1' := e1
      rw [show p = f + (p - f) by omega, beyond (p - f) (by omega)] at e1'
      exact ht.1 (f + (p - f)) (f + (q - f)) u v (by omega) (by omega) (by omega) e1' e2'
  · obtain ⟨k, k1, k2, k3⟩ := within p u h1 e1
    by_cases hq : q = i
    · subst hq
      rw [atI] at e2
      cases e2
      rcases seLin.tot x u (heap_top h hx k u (by omega) k3) with h4 | h4
      · subst h4
        have := hd _ _ _ k3 hx
        omega
      · exact h4
    · rw [beyond q (by omega)] at e2
      exact ht.2 k q u v (by omega) (by omega) h3 k3 e2
end Go.Proofs.YtobolifgehagfaaGreat

set_option linter.unusedVariables false
set_option linter.unusedSimpArgs false
set_option linter.unnecessarySimpa false
namespace Go.Proofs.YtobolifgehagfaaGreat
open Go Go.Den Go.Proofs
end Go.Proofs.YtobolifgehagfaaGreat

set_option linter.unusedVariables false
set_option linter.unusedSimpArgs false
set_option linter.unnecessarySimpa false
namespace Go.Proofs.YtobolifgehagfaaGreat
open Go Go.Den Go.Proofs
section
variable {H H0 : Heap} {l : List HP}
end
end Go.Proofs.YtobolifgehagfaaGreat
