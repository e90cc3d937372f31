/- What functions of this seat do, each proved by a walk; no condition. -/
import Derived.Test.YtkenjnllegbmjaaQC
set_option linter.unusedVariables false
namespace Go.Proofs.Ytkenjnllegbmjaa
open Go Go.Den Go.Proofs
/-! Heaps as plain lists. -/
def tm (its : List It) (i : Nat) : Int := match its[i]? with | some x => x.t | none => 0
def par (i : Nat) : Nat := (i - 1) / 2
def HpN (its : List It) (n : Nat) : Prop := ∀ i, 0 < i → i < n → tm its (par i) ≤ tm its i
def GpN (its : List It) (i n : Nat) : Prop := ∀ k, 0 < k → k < n → par k = i → 0 < i → tm its (par i) ≤ tm its k
def FixN (its : List It) (i n : Nat) : Prop := (∀ k, 0 < k → k < n → k ≠ i → par k ≠ i → tm its (par k) ≤ tm its k) ∧ GpN its i n
def UpN (its : List It) (i n : Nat) : Prop := (∀ k, 0 < k → k < n → k ≠ i → tm its (par k) ≤ tm its k) ∧ GpN its i n
theorem tm_of {its : List It} {i : Nat} {x : It} (h : its[i]? = some x) : tm its i = x.t := by unfold tm; rw [h]
theorem swp_len {its : List It} {i j : Nat} {x y : It} : (swp its i j x y).length = its.length := by simp [swp]
theorem swp_get {its : List It} {i j : Nat} {x y : It} (hi : its[i]? = some x) (hj : its[j]? = some y) (k : Nat) : (swp its i j x y)[k]? = if k = j then some x else if k = i then some y else its[k]? := by
  have h1 := lt_of hi
  have h2 := lt_of hj
  unfold swp
  rw [List.getElem?_set, List.getElem?_set]
  by_cases hkj : j = k
  · subst hkj; simp [h2]
  · by_cases hki : i = k
    · subst hki; simp [hkj, h1]; intro h; exact absurd h.symm hkj
    · rw [if_neg hkj, if_neg hki, if_neg (Ne.symm hkj), if_neg (Ne.symm hki)]
theorem swp_tm {its : List It} {i j : Nat} {x y : It} (hi : its[i]? = some x) (hj : its[j]? = some y) (k : Nat) : tm (swp its i j x y) k = if k = j then x.t else if k = i then y.t else tm its k := by
  unfold tm
  rw [swp_get hi hj]
  by_cases hkj : k = j
  · simp [hkj]
  · by_cases hki : k = i
    · rw [if_neg hkj, if_pos hki, if_neg hkj, if_pos hki]
    · simp [hkj, hki]
theorem swp_perm {its : List It} {i j : Nat} {x y : It} (hi : its[i]? = some x) (hj : its[j]? = some y) : (swp its i j x y).Perm its := by
  have h1 := lt_of hi
  have h2 := lt_of hj
  have : ((its.set i its[j]).set j its[i]).Perm its := List.set_set_perm h1 h2
  rw [List.getElem?_eq_getElem h1] at hi
  rw [List.getElem?_eq_getElem h2] at hj
  injection hi with hi
  injection hj with hj
  rw [hi, hj] at this
  exact this
theorem par_lt {i : Nat} (h : 0 < i) : par i < i := by unfold par; omega
theorem up_done {its : List It} {j n : Nat} (h : UpN its j n) (hj : j = 0 ∨ tm its (par j) ≤ tm its j) : HpN its n := by
  intro i h0 h1
  by_cases hij : i = j
  · subst hij; rcases hj with h2 | h2
    · omega
    · exact h2
  · exact h.1 i h0 h1 hij
theorem up_step {its : List It} {j n : Nat} {x y : It} (h : UpN its j n) (h0 : 0 < j) (hn : j < n) (hi : its[par j]? = some x) (hj : its[j]? = some y) (hlt : y.t < x.t) : UpN (swp its (par j) j x y) (par j) n := by
  obtain ⟨h1, h2⟩ := h
  have e1 := tm_of hi
  have e2 := tm_of hj
  have sw := swp_tm hi hj
  have hp := par_lt h0
  refine ⟨fun k k0 kn hk => ?_, fun k k0 kn hk hi0 => ?_⟩
  · have pk := par_lt k0
    have a1 := h1 k k0 kn
    have a2 := h2 k k0 kn
    rw [sw, sw]
    by_cases hkj : k = j
    · subst hkj
      rw [if_neg (by omega), if_pos rfl, if_pos rfl]; omega
    · have a1 := a1 hkj
      rw [if_neg hkj, if_neg hk]
      by_cases hpj : par k = j
      · rw [if_pos hpj]
        have := a2 hpj h0
        omega
      · rw [if_neg hpj]
        by_cases hpi : par k = par j
        · rw [if_pos hpi]; rw [hpi] at a1; omega
        · rw [if_neg hpi]; exact a1
  · have pk := par_lt k0
    have pp := par_lt hi0
    have b1 := h1 (par j) hi0 (by omega) (by omega)
    rw [sw, sw, if_neg (by omega), if_neg (by omega)]
    by_cases hkj : k = j
    · rw [if_pos hkj]; omega
    · rw [if_neg hkj, if_neg (by omega)]
      have := h1 k k0 kn hkj
      rw [hk] at this
      omega
theorem down_stop {its : List It} {i n : Nat} (h : FixN its i n) (hc : ∀ k, 0 < k → k < n → par k = i → tm its i ≤ tm its k) : UpN its i n := by
  refine ⟨fun k k0 kn hk => ?_, h.2⟩
  by_cases hp : par k = i
  · rw [hp]; exact hc k k0 kn hp
  · exact h.1 k k0 kn hk hp
theorem down_step {its : List It} {i j n : Nat} {x y : It} (h : FixN its i n) (hp : par j = i) (h0 : 0 < j) (hn : j < n) (hi : its[i]? = some x) (hj : its[j]? = some y) (hlt : y.t < x.t) (hs : ∀ k, 0 < k → k < n → par k = i → y.t ≤ tm its k) :
    FixN (swp its i j x y) j n ∧ tm (swp its i j x y) (par j) ≤ tm (swp its i j x y) j := by
  obtain ⟨h1, h2⟩ := h
  have e1 := tm_of hi
  have e2 := tm_of hj
  have sw := swp_tm hi hj
  have pj := par_lt h0
  refine ⟨⟨fun k k0 kn hk hpk => ?_, fun k k0 kn hk hj0 => ?_⟩, ?_⟩
  · have pk := par_lt k0
    rw [sw, sw, if_neg hpk, if_neg hk]
    by_cases hki : k = i
    · subst hki
      rw [if_neg (by omega), if_pos rfl]
      have := h2 j h0 hn hp k0
      omega
    · rw [if_neg hki]
      by_cases hpi : par k = i
      · rw [if_pos hpi]; exact hs k k0 kn hpi
      · rw [if_neg hpi]; exact h1 k k0 kn hki hpi
  · have pk := par_lt k0
    rw [sw, sw, hp, if_neg (by omega), if_pos rfl, if_neg (by omega), if_neg (by omega)]
    have := h1 k k0 kn (by omega) (by omega)
    rw [hk] at this
    omega
  · rw [sw, sw, hp, if_neg (by omega), if_pos rfl, if_pos rfl]; omega
theorem up_all {its : List It} {i n : Nat} (h : UpN its i n) (hp : 0 < i → tm its (par i) ≤ tm its i) : HpN its n := by
  refine up_done h ?_
  rcases Nat.eq_zero_or_pos i with h0 | h0
  · exact .inl h0
  · exact .inr (hp h0)
end Go.Proofs.Ytkenjnllegbmjaa
