/- What functions of this seat do, each proved by a walk; no condition. -/
import Derived.Test.YtkenjnllegbmjaaGreatLM3
set_option linter.unusedVariables false
namespace Go.Proofs.YtkenjnllegbmjaaGreat
open Go Go.Den Go.Proofs
/-! Times, and the elements of a queue. -/
def before (s n s' n' : Int) : Bool := decide (s < s') || (s == s' && decide (n < n'))
theorem before_ok (s n s' n' : Int) (H : Heap) (l : List HP) (S : Sat H l) : CallsH Tryz.prog 70 ⟨[.agg ⟨[.int .i64 s, .int .i64 n, .bool true]⟩, .agg ⟨[.int .i64 s', .int .i64 n', .bool true]⟩]⟩ H
    (fun e H1 => e = .returned (.bool (before s n s' n')) ∧ Sat H1 l) := by
  refine F70.calls ?_
  unfold F70.go
  (repeat (first | (refine Step.go ?_; intros) | refine iteB_t (by decide) ?_ | refine iteB_f (by decide) ?_ | (refine Duo.mk (by first | omega | exact rfl | decide) ?_; intros) | (refine Duo.mk (Clo.mk (by kernel_rfl)) ?_; intros)))
  refine iteB_i (fun h => ?_) (fun h => ?_)
  · simp only [decide_eq_true_eq] at h
    exact ⟨by simp [before, h], Sat.fin⟩
  · simp only [decide_eq_false_iff_not] at h
    (repeat (first | (refine Step.go ?_; intros) | refine iteB_t (by decide) ?_ | refine iteB_f (by decide) ?_ | (refine Duo.mk (by first | omega | exact rfl | decide) ?_; intros) | (refine Duo.mk (Clo.mk (by kernel_rfl)) ?_; intros)))
    refine iteB_i (fun h2 => ?_) (fun h2 => ?_)
    · (repeat (first | (refine Step.go ?_; intros) | refine iteB_t (by decide) ?_ | refine iteB_f (by decide) ?_ | (refine Duo.mk (by first | omega | exact rfl | decide) ?_; intros) | (refine Duo.mk (Clo.mk (by kernel_rfl)) ?_; intros)))
      simp only [beq_iff_eq] at h2
      subst h2
      exact ⟨by simp [before], Sat.fin⟩
    · simp only [beq_eq_false_iff_ne] at h2
      exact ⟨by simp [before, h, h2], Sat.fin⟩

abbrev G9 : Int := 1000000000
theorem before_eq (t u : Int) : before (t / G9) (t % G9) (u / G9) (u % G9) = decide (t < u) := by
  unfold before
  rw [Bool.eq_iff_iff]
  simp only [Bool.or_eq_true, Bool.and_eq_true, decide_eq_true_eq, beq_iff_eq, G9]
  omega
structure It where
  b : Nat
  id : Int
  t : Int
abbrev itemCells (x : It) (i : Int) : List Value := [.int .i64 x.id, .int .i64 (x.t / G9), .int .i64 (x.t % G9), .bool true, .int .i64 i]
abbrev it (i : Nat) (x : It) : HP := pt x.b (.cells ⟨itemCells x i⟩ 191)
abbrev cPtr (b : Nat) : List Value := [.pointer (some ⟨b, 0, none⟩)]
instance {b : Nat} : Enc cPtr [.pointer (some ⟨b, 0, none⟩)] b := ⟨rfl⟩
abbrev qsl (p : Option Addr) (n c : Nat) (its : List It) : HP := sl cPtr 189 1 p n c (its.map (·.b))
theorem hasIt {its : List It} {i : Nat} {x : It} (h : its[i]? = some x) : HasI (its.map (·.b)) (i : Int) x.b := ⟨by simp [h]⟩
theorem atIt {its : List It} {i : Nat} {x : It} (h : its[i]? = some x) : At x.b (.cells ⟨itemCells x i⟩ 191) (bigs it 0 its) := .of (by have := bigs_mem (f := it) (k := 0) h; rwa [Nat.zero_add] at this)
theorem less_ok {p : Option Addr} {n c : Nat} {its : List It} {i j : Nat} {x y : It} (hi : its[i]? = some x) (hj : its[j]? = some y) (H : Heap) (l : List HP) (S : Sat H (qsl p n c its :: star (bigs it 0 its) :: l)) : CallsH Tryz.prog 235 ⟨[.slice p n c, .int .i64 i, .int .i64 j]⟩ H
    (fun e H1 => e = .returned (.bool (decide (x.t < y.t))) ∧ Sat H1 (qsl p n c its :: star (bigs it 0 its) :: l)) := by
  refine F235.calls ?_
  unfold F235.go
  have hn := (S.slLen (List.mem_cons_self ..)).1
  have h1 := lt_of hi
  have h2 := lt_of hj
  simp only [List.length_map] at hn
  refine S.idx ⟨by omega, by omega, ?_⟩
  rintro r o rfl
  (repeat (first | (refine Step.go ?_; intros) | refine iteB_t (by decide) ?_ | refine iteB_f (by decide) ?_ | (refine Duo.mk (by first | omega | exact rfl | decide) ?_; intros) | (refine Duo.mk (Clo.mk (by kernel_rfl)) ?_; intros)))
  have a1 := hasIt hi
  have a2 := hasIt hj
  have a3 := atIt hi
  have a4 := atIt hj
  (repeat (first | (refine Step.go ?_; intros) | refine iteB_t (by decide) ?_ | refine iteB_f (by decide) ?_ | (refine Duo.mk (by first | omega | exact rfl | decide) ?_; intros) | (refine Duo.mk (Clo.mk (by kernel_rfl)) ?_; intros)))
  refine call_of (before_ok _ _ _ _ _ _ ‹_›) ?_
  rintro e H1 ⟨rfl, S1⟩
  (repeat (first | (refine Step.go ?_; intros) | refine iteB_t (by decide) ?_ | refine iteB_f (by decide) ?_ | (refine Duo.mk (by first | omega | exact rfl | decide) ?_; intros) | (refine Duo.mk (Clo.mk (by kernel_rfl)) ?_; intros)))
  exact ⟨by rw [before_eq], Sat.fin⟩

/-- Two elements change places. -/
def swp {α : Type} (l : List α) (i j : Nat) (x y : α) : List α := (l.set i y).set j x
theorem swap_ok {p : Option Addr} {n c : Nat} {its : List It} {i j : Nat} {x y : It} (hi : its[i]? = some x) (hj : its[j]? = some y) (H : Heap) (l : List HP) (S : Sat H (qsl p n c its :: star (bigs it 0 its) :: l)) : CallsH Tryz.prog 236 ⟨[.slice p n c, .int .i64 i, .int .i64 j]⟩ H
    (fun e H1 => e = .returned (.tuple ⟨[]⟩) ∧ Sat H1 (qsl p n c (swp its i j x y) :: star (bigs it 0 (swp its i j x y)) :: l)) := by
  refine F236.calls ?_
  unfold F236.go
  have hn := (S.slLen (List.mem_cons_self ..)).1
  have h1 := lt_of hi
  have h2 := lt_of hj
  simp only [List.length_map] at hn
  refine S.idx ⟨by omega, by omega, ?_⟩
  rintro r o rfl
  have a1 := hasIt hi
  have a2 := hasIt hj
  (repeat (first | (refine Step.go ?_; intros) | refine iteB_t (by decide) ?_ | refine iteB_f (by decide) ?_ | (refine Duo.mk (by first | omega | exact rfl | decide) ?_; intros) | (refine Duo.mk (Clo.mk (by kernel_rfl)) ?_; intros)))
  have e0 : ∀ (k : Int) (b : Nat), (its.map (·.b))[k.toNat]? = some b → True := fun _ _ _ => trivial
  have b1 : HasI ((its.map (·.b)).set (Int.toNat (i : Int)) y.b) (j : Int) y.b := ⟨by
    simp only [Int.toNat_natCast, List.getElem?_set, List.length_map, List.getElem?_map, hj, Option.map_some]
    split <;> simp⟩
  have b2 : HasI (((its.map (·.b)).set (Int.toNat (i : Int)) y.b).set (Int.toNat (j : Int)) x.b) (j : Int) x.b := ⟨by
    simp [h2]⟩
  have b3 : HasI (((its.map (·.b)).set (Int.toNat (i : Int)) y.b).set (Int.toNat (j : Int)) x.b) (i : Int) y.b := ⟨by
    simp only [Int.toNat_natCast, List.getElem?_set, List.length_map, List.length_set]
    split
    · rename_i hij; subst hij; rw [hi] at hj; cases hj; simp
    · simp⟩
  have e1 : ((its.map (·.b)).set (Int.toNat (i : Int)) y.b).set (Int.toNat (j : Int)) x.b = (swp its i j x y).map (·.b) := by simp [swp, List.map_set]
  (repeat (first | (refine Step.go ?_; intros) | refine iteB_t (by decide) ?_ | refine iteB_f (by decide) ?_ | (refine Duo.mk (by first | omega | exact rfl | decide) ?_; intros) | (refine Duo.mk (Clo.mk (by kernel_rfl)) ?_; intros)))
  rename_i H2 S2
  rw [e1] at S2 b2 b3
  by_cases hij : i = j
  · subst hij
    rw [hi] at hj
    cases hj
    obtain ⟨R, S4, back⟩ := (S2.bring (.there .here)).bigOut hi
    rw [Nat.zero_add] at S4 back
    have es : swp its i i x x = its.set i x := by simp [swp]
    have back := back x
    rw [← es] at back
    (repeat (first | (refine Step.go ?_; intros) | refine iteB_t (by decide) ?_ | refine iteB_f (by decide) ?_ | (refine Duo.mk (by first | omega | exact rfl | decide) ?_; intros) | (refine Duo.mk (Clo.mk (by kernel_rfl)) ?_; intros)))
    exact ⟨rfl, Sat.to ‹_› (back.trans (.pick (.there .here) (.pick .here .refl)))⟩
  · obtain ⟨R, S4, back⟩ := (S2.bring (.there .here)).bigOut2 hi hj hij
    rw [Nat.zero_add, Nat.zero_add] at S4 back
    (repeat (first | (refine Step.go ?_; intros) | refine iteB_t (by decide) ?_ | refine iteB_f (by decide) ?_ | (refine Duo.mk (by first | omega | exact rfl | decide) ?_; intros) | (refine Duo.mk (Clo.mk (by kernel_rfl)) ?_; intros)))
    refine ⟨rfl, ?_⟩
    have S5 := Sat.to ‹_› (Ent.trans (.pick (.there .here) (.pick .here .refl)) (back y x))
    exact S5.to (.pick (.there .here) (.pick .here .refl))
end Go.Proofs.YtkenjnllegbmjaaGreat

set_option linter.unusedVariables false
namespace Go.Proofs.YtkenjnllegbmjaaGreat
open Go Go.Den Go.Proofs
/-! Heaps as plain lists. -/
def tm (its : List It) (i : Nat) : Int := match its[i]? with | some x => x.t | none => 0
def par (i : Nat) : Nat := (i - 1) / 2
def HpN (its : List It) (n : Nat) : Prop := ∀ i, 0 < i → i < n → tm its (par i) ≤ tm its i
def GpN (its : List It) (i n : Nat) : Prop := ∀ k, 0 < k → k < n → par k = i → 0 < i → tm its (par i) ≤ tm its k
def FixN (its : List It) (i n : Nat) : Prop := (∀ k, 0 < k → k < n → k ≠ i → par k ≠ i → tm its (par k) ≤ tm its k) ∧ GpN its i n
def UpN (its : List It) (i n : Nat) : Prop := (∀ k, 0 < k → k < n → k ≠ i → tm its (par k) ≤ tm its k) ∧ GpN its i n
theorem tm_of {its : List It} {i : Nat} {x : It} (h : its[i]? = some x) : tm its i = x.t := by unfold tm; rw [h]
theorem swp_len {its : List It} {i j : Nat} {x y : It} : (swp its i j x y).length = its.length := by simp [swp]
theorem swp_get {its : List It} {i j : Nat} {x y : It} (hi : its[i]? = some x) (hj : its[j]? = some y) (k : Nat) : (swp its i j x y)[k]? = if k = j then some x else if k = i then some y else its[k]? := by
  have h1 := lt_of hi
  have h2 := lt_of hj
  unfold swp
  rw [List.getElem?_set, List.getElem?_set]
  by_cases hkj : j = k
  · subst hkj; simp [h2]
  · by_cases hki : i = k
    · subst hki; simp [hkj, h1]; intro h; exact absurd h.symm hkj
    · rw [if_neg hkj, if_neg hki, if_neg (Ne.symm hkj), if_neg (Ne.symm hki)]
theorem swp_tm {its : List It} {i j : Nat} {x y : It} (hi : its[i]? = some x) (hj : its[j]? = some y) (k : Nat) : tm (swp its i j x y) k = if k = j then x.t else if k = i then y.t else tm its k := by
  unfold tm
  rw [swp_get hi hj]
  by_cases hkj : k = j
  · simp [hkj]
  · by_cases hki : k = i
    · rw [if_neg hkj, if_pos hki, if_neg hkj, if_pos hki]
    · simp [hkj, hki]
theorem swp_perm {its : List It} {i j : Nat} {x y : It} (hi : its[i]? = some x) (hj : its[j]? = some y) : (swp its i j x y).Perm its := by
  have h1 := lt_of hi
  have h2 := lt_of hj
  have : ((its.set i its[j]).set j its[i]).Perm its := List.set_set_perm h1 h2
  rw [List.getElem?_eq_getElem h1] at hi
  rw [List.getElem?_eq_getElem h2] at hj
  injection hi with hi
  injection hj with hj
  rw [hi, hj] at this
  exact this
theorem par_lt {i : Nat} (h : 0 < i) : par i < i := by unfold par; omega
theorem up_done {its : List It} {j n : Nat} (h : UpN its j n) (hj : j = 0 ∨ tm its (par j) ≤ tm its j) : HpN its n := by
  intro i h0 h1
  by_cases hij : i = j
  · subst hij; rcases hj with h2 | h2
    · omega
    · exact h2
  · exact h.1 i h0 h1 hij
theorem up_step {its : List It} {j n : Nat} {x y : It} (h : UpN its j n) (h0 : 0 < j) (hn : j < n) (hi : its[par j]? = some x) (hj : its[j]? = some y) (hlt : y.t < x.t) : UpN (swp its (par j) j x y) (par j) n := by
  obtain ⟨h1, h2⟩ := h
  have e1 := tm_of hi
  have e2 := tm_of hj
  have sw := swp_tm hi hj
  have hp := par_lt h0
  refine ⟨fun k k0 kn hk => ?_, fun k k0 kn hk hi0 => ?_⟩
  · have pk := par_lt k0
    have a1 := h1 k k0 kn
    have a2 := h2 k k0 kn
    rw [sw, sw]
    by_cases hkj : k = j
    · subst hkj
      rw [if_neg (by omega), if_pos rfl, if_pos rfl]; omega
    · have a1 := a1 hkj
      rw [if_neg hkj, if_neg hk]
      by_cases hpj : par k = j
      · rw [if_pos hpj]
        have := a2 hpj h0
        omega
      · rw [if_neg hpj]
        by_cases hpi : par k = par j
        · rw [if_pos hpi]; rw [hpi] at a1; omega
        · rw [if_neg hpi]; exact a1
  · have pk := par_lt k0
    have pp := par_lt hi0
    have b1 := h1 (par j) hi0 (by omega) (by omega)
    rw [sw, sw, if_neg (by omega), if_neg (by omega)]
    by_cases hkj : k = j
    · rw [if_pos hkj]; omega
    · rw [if_neg hkj, if_neg (by omega)]
      have := h1 k k0 kn hkj
      rw [hk] at this
      omega
theorem down_stop {its : List It} {i n : Nat} (h : FixN its i n) (hc : ∀ k, 0 < k → k < n → par k = i → tm its i ≤ tm its k) : UpN its i n := by
  refine ⟨fun k k0 kn hk => ?_, h.2⟩
  by_cases hp : par k = i
  · rw [hp]; exact hc k k0 kn hp
  · exact h.1 k k0 kn hk hp
theorem down_step {its : List It} {i j n : Nat} {x y : It} (h : FixN its i n) (hp : par j = i) (h0 : 0 < j) (hn : j < n) (hi : its[i]? = some x) (hj : its[j]? = some y) (hlt : y.t < x.t) (hs : ∀ k, 0 < k → k < n → par k = i → y.t ≤ tm its k) :
    FixN (swp its i j x y) j n ∧ tm (swp its i j x y) (par j) ≤ tm (swp its i j x y) j := by
  obtain ⟨h1, h2⟩ := h
  have e1 := tm_of hi
  have e2 := tm_of hj
  have sw := swp_tm hi hj
  have pj := par_lt h0
  refine ⟨⟨fun k k0 kn hk hpk => ?_, fun k k0 kn hk hj0 => ?_⟩, ?_⟩
  · have pk := par_lt k0
    rw [sw, sw, if_neg hpk, if_neg hk]
    by_cases hki : k = i
    · subst hki
      rw [if_neg (by omega), if_pos rfl]
      have := h2 j h0 hn hp k0
      omega
    · rw [if_neg hki]
      by_cases hpi : par k = i
      · rw [if_pos hpi]; exact hs k k0 kn hpi
      · rw [if_neg hpi]; exact h1 k k0 kn hki hpi
  · have pk := par_lt k0
    rw [sw, sw, hp, if_neg (by omega), if_pos rfl, if_neg (by omega), if_neg (by omega)]
    have := h1 k k0 kn (by omega) (by omega)
    rw [hk] at this
    omega
  · rw [sw, sw, hp, if_neg (by omega), if_pos rfl, if_pos rfl]; omega
theorem up_all {its : List It} {i n : Nat} (h : UpN its i n) (hp : 0 < i → tm its (par i) ≤ tm its i) : HpN its n := by
  refine up_done h ?_
  rcases Nat.eq_zero_or_pos i with h0 | h0
  · exact .inl h0
  · exact .inr (hp h0)
end Go.Proofs.YtkenjnllegbmjaaGreat

set_option linter.unusedVariables false
namespace Go.Proofs.YtkenjnllegbmjaaGreat
open Go Go.Den Go.Proofs
theorem wr {i : Int} (h0 : -9223372036854775808 ≤ i) (h1 : i < 9223372036854775808) : IntKind.wrap .i64 i = i := wr64 h0 h1
theorem wr_par {j : Nat} (h : j < 4611686018427387904) : IntKind.wrap .i64 (Int.tdiv (IntKind.wrap .i64 ((j : Int) - 1)) 2) = ((par j : Nat) : Int) := by
  rw [wr (i := (j : Int) - 1) (by omega) (by omega)]
  unfold par
  rcases Nat.eq_zero_or_pos j with h0 | h0
  · subst h0; rfl
  · rw [Int.tdiv_eq_ediv_of_nonneg (by omega), wr (by omega) (by omega)]
    omega
abbrev qI (mq : Nat) : IV := .mk 194 (.pointer (some ⟨mq, 1, none⟩))
abbrev qV (mq : Nat) : Value := .iface 194 (.pointer (some ⟨mq, 1, none⟩))
abbrev qb (mq mb : Nat) (p : Option Addr) (n c : Nat) : HP := pt mq (.cells ⟨[.map (some mb), .slice p n c]⟩ 207)
/-- The queue: its block, its slice, its elements. -/
abbrev qs (mq mb : Nat) (p : Option Addr) (n c : Nat) (its : List It) (l : List HP) : List HP := qb mq mb p n c :: qsl p n c its :: star (bigs it 0 its) :: l
section
variable {mq mb : Nat} {p : Option Addr} {n c : Nat} {its : List It} {H : Heap} {l : List HP} {Q : List PanicEntry → Heap → Prop} {K : Value → Heap → Prop}
theorem qs_len (S : Sat H (qs mq mb p n c its l)) : its.length = n ∧ n ≤ c := by
  have := S.slLen (List.mem_cons_of_mem _ (List.mem_cons_self ..))
  simpa using this
theorem len_i (S : Sat H (qs mq mb p n c its l)) (k : ∀ H1, Sat H1 (qs mq mb p n c its l) → K (.int .i64 n) H1) : callI Tryz.prog (qV mq) "Len" [] H Q K := by
  refine callI_sl (e := 131) (u := 189) (f := 67) (by kernel_rfl) (by kernel_rfl) (by kernel_rfl) (by kernel_rfl) ?_
  (repeat (first | (refine Step.go ?_; intros) | refine iteB_t (by decide) ?_ | refine iteB_f (by decide) ?_ | (refine Duo.mk (by first | omega | exact rfl | decide) ?_; intros) | (refine Duo.mk (Clo.mk (by kernel_rfl)) ?_; intros)))
  refine call_of (F67.calls (R := fun e H1 => e = .returned (.int .i64 n) ∧ Sat H1 (qs mq mb p n c its l)) ?_) ?_
  · exact ⟨rfl, S⟩
  · rintro e H1 ⟨rfl, S⟩
    exact k _ S
theorem less_i {i j : Nat} {x y : It} (hi : its[i]? = some x) (hj : its[j]? = some y) (S : Sat H (qs mq mb p n c its l)) (k : ∀ H1, Sat H1 (qs mq mb p n c its l) → K (.bool (decide (x.t < y.t))) H1) : callI Tryz.prog (qV mq) "Less" [.int .i64 i, .int .i64 j] H Q K := by
  refine callI_sl (e := 131) (u := 189) (f := 235) (by kernel_rfl) (by kernel_rfl) (by kernel_rfl) (by kernel_rfl) ?_
  (repeat (first | (refine Step.go ?_; intros) | refine iteB_t (by decide) ?_ | refine iteB_f (by decide) ?_ | (refine Duo.mk (by first | omega | exact rfl | decide) ?_; intros) | (refine Duo.mk (Clo.mk (by kernel_rfl)) ?_; intros)))
  refine call_of (less_ok hi hj _ (qb mq mb p n c :: l) (by (refine Sat.to (by assumption) ?_; apply Ent.pick; (focus (repeat (first | exact Sel.here | apply Sel.there))); apply Ent.pick; (focus (repeat (first | exact Sel.here | apply Sel.there))); exact Ent.refl))) ?_
  rintro e H1 ⟨rfl, S⟩
  exact k _ Sat.fin
theorem swap_i {i j : Nat} {x y : It} (hi : its[i]? = some x) (hj : its[j]? = some y) (S : Sat H (qs mq mb p n c its l)) (k : ∀ H1, Sat H1 (qs mq mb p n c (swp its i j x y) l) → K (.tuple ⟨[]⟩) H1) : callI Tryz.prog (qV mq) "Swap" [.int .i64 i, .int .i64 j] H Q K := by
  refine callI_sl (e := 131) (u := 189) (f := 236) (by kernel_rfl) (by kernel_rfl) (by kernel_rfl) (by kernel_rfl) ?_
  (repeat (first | (refine Step.go ?_; intros) | refine iteB_t (by decide) ?_ | refine iteB_f (by decide) ?_ | (refine Duo.mk (by first | omega | exact rfl | decide) ?_; intros) | (refine Duo.mk (Clo.mk (by kernel_rfl)) ?_; intros)))
  refine call_of (swap_ok hi hj _ (qb mq mb p n c :: l) (by (refine Sat.to (by assumption) ?_; apply Ent.pick; (focus (repeat (first | exact Sel.here | apply Sel.there))); apply Ent.pick; (focus (repeat (first | exact Sel.here | apply Sel.there))); exact Ent.refl))) ?_
  rintro e H1 ⟨rfl, S⟩
  exact k _ Sat.fin
end
/-- What 'up' leaves. -/
def UpR (mq mb : Nat) (p : Option Addr) (n c : Nat) (its0 : List It) (l : List HP) : Ending → Heap → Prop := fun e H1 => ∃ its', e = .returned (.tuple ⟨[]⟩) ∧ its'.Perm its0 ∧ HpN its' n ∧ Sat H1 (qs mq mb p n c its' l)
theorem up_loop {mq mb : Nat} {p : Option Addr} {n c : Nat} {its0 : List It} {l : List HP} (hn : n < 4611686018427387904) : ∀ (j : Nat) (its : List It) (H : Heap), j < n → UpN its j n → its.Perm its0 → Sat H (qs mq mb p n c its l) → F112.L0 (qI mq) j H (UpR mq mb p n c its0 l) := by
  intro j
  induction j using Nat.strongRecOn with
  | ind j ih =>
    intro its H hj hu hp S
    obtain ⟨hl, _⟩ := qs_len S
    refine F112.L0_step ?_
    unfold F112.L0n
    refine ⟨by decide, ?_⟩
    rw [wr_par (by omega)]
    refine iteB_i (fun h => ?_) (fun h => ?_)
    · have : par j = j := by have := of_decide_eq_true h; omega
      have h0 : j = 0 := by
        rcases Nat.eq_zero_or_pos j with h | h
        · exact h
        · have := par_lt h; omega
      exact ⟨its, rfl, hp, up_done hu (.inl h0), S⟩
    · have h0 : 0 < j := by
        rcases Nat.eq_zero_or_pos j with h1 | h1
        · subst h1; simp [par] at h
        · exact h1
      have pj := par_lt h0
      obtain ⟨x, hx⟩ := get_of (xs := its) (i := par j) (by omega)
      obtain ⟨y, hy⟩ := get_of (xs := its) (i := j) (by omega)
      refine less_i hy hx S ?_
      intro H1 S1
      (repeat (first | (refine Step.go ?_; intros) | refine iteB_t (by decide) ?_ | refine iteB_f (by decide) ?_ | (refine Duo.mk (by first | omega | exact rfl | decide) ?_; intros) | (refine Duo.mk (Clo.mk (by kernel_rfl)) ?_; intros)))
      refine iteB_i (fun h => ?_) (fun h => ?_)
      · simp at h
        exact ⟨its, rfl, hp, up_done hu (.inr (by rw [tm_of hx, tm_of hy]; exact h)), S1⟩
      · simp at h
        refine F112.L1_step ?_
        unfold F112.L1n
        refine swap_i hx hy S1 ?_
        intro H2 S2
        (repeat (first | (refine Step.go ?_; intros) | refine iteB_t (by decide) ?_ | refine iteB_f (by decide) ?_ | (refine Duo.mk (by first | omega | exact rfl | decide) ?_; intros) | (refine Duo.mk (Clo.mk (by kernel_rfl)) ?_; intros)))
        exact ih (par j) pj _ H2 (by omega) (up_step hu h0 hj hx hy h) ((swp_perm hx hy).trans hp) S2
theorem up_ok {mq mb : Nat} {p : Option Addr} {n c : Nat} {l : List HP} {j : Nat} {its : List It} {H : Heap} (hn : n < 4611686018427387904) (hj : j < n) (hu : UpN its j n) (S : Sat H (qs mq mb p n c its l)) : CallsH Tryz.prog 112 ⟨[qV mq, .int .i64 j]⟩ H (UpR mq mb p n c its l) :=
  F112.calls (h1 := qI mq) (up_loop hn j its H hj hu (.refl _) S)
end Go.Proofs.YtkenjnllegbmjaaGreat

set_option linter.unusedVariables false
namespace Go.Proofs.YtkenjnllegbmjaaGreat
open Go Go.Den Go.Proofs
theorem wr_kid {i : Nat} (h : i < 2305843009213693952) : IntKind.wrap .i64 (IntKind.wrap .i64 (2 * (i : Int)) + 1) = ((2 * i + 1 : Nat) : Int) := by
  rw [wr (i := 2 * (i : Int)) (by omega) (by omega), wr (by omega) (by omega)]; omega
theorem wr_succ {i : Nat} (h : i < 4611686018427387904) : IntKind.wrap .i64 ((i : Int) + 1) = ((i + 1 : Nat) : Int) := by rw [wr (by omega) (by omega)]; rfl
/-- What 'down' leaves, of the first m elements. -/
def DownR (mq mb : Nat) (p : Option Addr) (n c : Nat) (its0 : List It) (i0 m : Nat) (l : List HP) : Ending → Heap → Prop := fun e H1 => ∃ its' moved, e = .returned (.bool moved) ∧ its'.Perm its0 ∧ (∀ k, m ≤ k → its'[k]? = its0[k]?) ∧
  (moved = true → HpN its' m) ∧ (moved = false → its' = its0 ∧ UpN its0 i0 m) ∧ Sat H1 (qs mq mb p n c its' l)
theorem down_loop {mq mb : Nat} {p : Option Addr} {n c : Nat} {its0 : List It} {i0 m : Nat} {l : List HP} (hn : n < 1152921504606846976) (hm : m ≤ n) :
    ∀ (d i : Nat) (its : List It) (H : Heap), i + d = m + 1 → i0 ≤ i → FixN its i m → (i = i0 → its = its0) → (i ≠ i0 → 0 < i → tm its (par i) ≤ tm its i) → its.Perm its0 → (∀ k, m ≤ k → its[k]? = its0[k]?) → Sat H (qs mq mb p n c its l) →
      F92.L0 (qI mq) (i0 : Int) (m : Int) (i : Int) H (DownR mq mb p n c its0 i0 m l) := by
  intro d
  induction d using Nat.strongRecOn with
  | ind d ih =>
    intro i its H hd h0 hf he hp hpm hk S
    obtain ⟨hl, _⟩ := qs_len S
    -- the end, at i
    have stop : (∀ k, 0 < k → k < m → par k = i → tm its i ≤ tm its k) → ∀ H1, Sat H1 (qs mq mb p n c its l) → DownR mq mb p n c its0 i0 m l (.returned (.bool (decide ((i : Int) > i0)))) H1 := by
      intro hc H1 S1
      have hu := down_stop hf hc
      refine ⟨its, _, rfl, hpm, hk, fun hd => ?_, fun hd => ?_, S1⟩
      · simp at hd
        exact up_all hu (hp (by omega))
      · simp at hd
        have : i = i0 := by omega
        subst this
        have := he rfl
        subst this
        exact ⟨rfl, hu⟩
    refine F92.L0_step ?_
    unfold F92.L0n
    rw [wr_kid (by omega)]
    refine iteB_i (fun h => ?_) (fun h => ?_)
    · simp at h
      exact stop (fun k k0 km hk => by unfold par at hk; omega) H S
    · simp at h
      refine iteB_f (by simp; omega) ?_
      refine F92.L1_step ?_
      unfold F92.L1n
      rw [wr_succ (by omega)]
      obtain ⟨x, hx⟩ := get_of (xs := its) (i := i) (by omega)
      obtain ⟨y, hy⟩ := get_of (xs := its) (i := 2 * i + 1) (by omega)
      -- the least child, at j
      have fin : ∀ (j : Nat) (y : It) (H1 : Heap), j < m → par j = i → 0 < j → its[j]? = some y → (∀ k, 0 < k → k < m → par k = i → y.t ≤ tm its k) → Sat H1 (qs mq mb p n c its l) → F92.L3 (qI mq) (i0 : Int) (m : Int) (i : Int) (j : Int) H1 (DownR mq mb p n c its0 i0 m l) := by
        intro j y H1 hj hpj hj0 hy hs S1
        refine F92.L3_step ?_
        unfold F92.L3n
        refine less_i hy hx S1 ?_
        intro H2 S2
        (repeat (first | (refine Step.go ?_; intros) | refine iteB_t (by decide) ?_ | refine iteB_f (by decide) ?_ | (refine Duo.mk (by first | omega | exact rfl | decide) ?_; intros) | (refine Duo.mk (Clo.mk (by kernel_rfl)) ?_; intros)))
        refine iteB_i (fun h => ?_) (fun h => ?_)
        · simp at h
          refine stop (fun k k0 km hk => ?_) _ S2
          have := hs k k0 km hk
          rw [tm_of hx]; omega
        · simp at h
          refine swap_i hx hy S2 ?_
          intro H3 S3
          (repeat (first | (refine Step.go ?_; intros) | refine iteB_t (by decide) ?_ | refine iteB_f (by decide) ?_ | (refine Duo.mk (by first | omega | exact rfl | decide) ?_; intros) | (refine Duo.mk (Clo.mk (by kernel_rfl)) ?_; intros)))
          have ds := down_step hf hpj hj0 hj hx hy h hs
          have pj := par_lt hj0
          refine ih (m + 1 - j) (by omega) j _ H3 (by omega) (by omega) ds.1 (fun h => by omega) (fun _ _ => ds.2) ((swp_perm hx hy).trans hpm) (fun k hk1 => ?_) S3
          rw [swp_get hx hy, if_neg (by omega), if_neg (by omega)]
          exact hk k hk1
      have pk : ∀ k, 0 < k → par k = i → k = 2 * i + 1 ∨ k = 2 * i + 2 := fun k k0 hk => by unfold par at hk; omega
      refine iteB_i (fun h2 => ?_) (fun h2 => ?_)
      · simp at h2
        obtain ⟨z, hz⟩ := get_of (xs := its) (i := 2 * i + 1 + 1) (by omega)
        refine less_i hz hy S ?_
        intro H1 S1
        (repeat (first | (refine Step.go ?_; intros) | refine iteB_t (by decide) ?_ | refine iteB_f (by decide) ?_ | (refine Duo.mk (by first | omega | exact rfl | decide) ?_; intros) | (refine Duo.mk (Clo.mk (by kernel_rfl)) ?_; intros)))
        refine iteB_i (fun h3 => ?_) (fun h3 => ?_)
        · simp at h3
          refine F92.L2_step ?_
          unfold F92.L2n
          refine fin (2 * i + 1 + 1) z H1 (by omega) (by unfold par; omega) (by omega) hz (fun k k0 km hk => ?_) S1
          rcases pk k k0 hk with rfl | rfl
          · rw [tm_of hy]; omega
          · rw [tm_of hz]; exact Int.le_refl _
        · simp at h3
          refine fin (2 * i + 1) y H1 (by omega) (by unfold par; omega) (by omega) hy (fun k k0 km hk => ?_) S1
          rcases pk k k0 hk with rfl | rfl
          · rw [tm_of hy]; exact Int.le_refl _
          · rw [tm_of hz]; omega
      · simp at h2
        refine fin (2 * i + 1) y H (by omega) (by unfold par; omega) (by omega) hy (fun k k0 km hk => ?_) S
        rcases pk k k0 hk with rfl | rfl
        · rw [tm_of hy]; exact Int.le_refl _
        · omega
theorem down_ok {mq mb : Nat} {p : Option Addr} {n c : Nat} {l : List HP} {i m : Nat} {its : List It} {H : Heap} (hn : n < 1152921504606846976) (hm : m ≤ n) (hi : i ≤ m) (hf : FixN its i m) (S : Sat H (qs mq mb p n c its l)) :
    CallsH Tryz.prog 92 ⟨[qV mq, .int .i64 i, .int .i64 m]⟩ H (DownR mq mb p n c its i m l) :=
  F92.calls (h1 := qI mq) (down_loop hn hm (m + 1 - i) i its H (by omega) (Nat.le_refl _) hf (fun _ => rfl) (fun h => absurd rfl h) (.refl _) (fun _ _ => rfl) S)
/-- An element at i has got another time: the heap is made one again. -/
theorem fix_ok {mq mb : Nat} {p : Option Addr} {n c : Nat} {l : List HP} {i : Nat} {its : List It} {H : Heap} (hn : n < 1152921504606846976) (hi : i < n) (hf : FixN its i n) (S : Sat H (qs mq mb p n c its l)) :
    CallsH Tryz.prog 103 ⟨[qV mq, .int .i64 i]⟩ H (UpR mq mb p n c its l) := by
  refine F103.calls (h1 := qI mq) ?_
  unfold F103.go
  refine len_i S ?_
  intro H1 S1
  (repeat (first | (refine Step.go ?_; intros) | refine iteB_t (by decide) ?_ | refine iteB_f (by decide) ?_ | (refine Duo.mk (by first | omega | exact rfl | decide) ?_; intros) | (refine Duo.mk (Clo.mk (by kernel_rfl)) ?_; intros)))
  refine call_of (down_ok hn (Nat.le_refl _) (by omega) hf S1) ?_
  rintro e H2 ⟨its', moved, rfl, hpm, hk, h1, h2, S2⟩
  (repeat (first | (refine Step.go ?_; intros) | refine iteB_t (by decide) ?_ | refine iteB_f (by decide) ?_ | (refine Duo.mk (by first | omega | exact rfl | decide) ?_; intros) | (refine Duo.mk (Clo.mk (by kernel_rfl)) ?_; intros)))
  cases moved with
  | true =>
    (repeat (first | (refine Step.go ?_; intros) | refine iteB_t (by decide) ?_ | refine iteB_f (by decide) ?_ | (refine Duo.mk (by first | omega | exact rfl | decide) ?_; intros) | (refine Duo.mk (Clo.mk (by kernel_rfl)) ?_; intros)))
    exact ⟨its', rfl, hpm, h1 rfl, S2⟩
  | false =>
    obtain ⟨rfl, hu⟩ := h2 rfl
    (repeat (first | (refine Step.go ?_; intros) | refine iteB_t (by decide) ?_ | refine iteB_f (by decide) ?_ | (refine Duo.mk (by first | omega | exact rfl | decide) ?_; intros) | (refine Duo.mk (Clo.mk (by kernel_rfl)) ?_; intros)))
    refine call_of (up_ok (by omega) hi hu S2) ?_
    rintro e H3 ⟨its2, rfl, hpm2, hh, S3⟩
    (repeat (first | (refine Step.go ?_; intros) | refine iteB_t (by decide) ?_ | refine iteB_f (by decide) ?_ | (refine Duo.mk (by first | omega | exact rfl | decide) ?_; intros) | (refine Duo.mk (Clo.mk (by kernel_rfl)) ?_; intros)))
    exact ⟨its2, rfl, hpm2, hh, S3⟩
end Go.Proofs.YtkenjnllegbmjaaGreat

set_option linter.unusedVariables false
namespace Go.Proofs.YtkenjnllegbmjaaGreat
open Go Go.Den Go.Proofs
abbrev itB (x : It) (i : Int) : HP := pt x.b (.cells ⟨itemCells x i⟩ 191)
section
variable {mq mb : Nat} {p : Option Addr} {n c : Nat} {its : List It} {H : Heap} {l : List HP}
theorem push_m {x : It} {i : Int} (hn : n < 1000000) (S : Sat H (itB x i :: qs mq mb p n c its l)) : CallsH Tryz.prog 272 ⟨[.pointer (some ⟨mq, 1, none⟩), .iface 189 (.pointer (some ⟨x.b, 0, none⟩))]⟩ H
    (fun e H1 => ∃ p' c', e = .returned (.tuple ⟨[]⟩) ∧ Sat H1 (qs mq mb p' (n + 1) c' (its ++ [x]) l)) := by
  refine F272.calls (x := .mk 189 (.pointer (some ⟨x.b, 0, none⟩))) ?_
  unfold F272.go
  obtain ⟨hl, _⟩ := qs_len (S.to (Ent.drop .refl))
  (repeat (first | (refine Step.go ?_; intros) | refine iteB_t (by decide) ?_ | refine iteB_f (by decide) ?_ | (refine Duo.mk (by first | omega | exact rfl | decide) ?_; intros) | (refine Duo.mk (Clo.mk (by kernel_rfl)) ?_; intros)))
  rename_i p' c' _ _ _ _
  refine ⟨p', c', rfl, ?_⟩
  have e1 : its.map (·.b) ++ [x.b] = (its ++ [x]).map (·.b) := by simp
  have S4 := Sat.to (l := _) (m := qb mq mb p' (n + 1) c' :: qsl p' (n + 1) c' (its ++ [x]) :: it n x :: star (bigs it 0 its) :: l) ‹_› (by rw [e1]; exact Fits.out)
  refine S4.to (.cons (.cons ?_))
  rw [bigs_append]
  refine Ent.trans .consStar (.starPerm ?_)
  simp only [Nat.zero_add, hl, bigs]
  exact List.perm_append_singleton _ _ |>.symm
theorem hp_mono {its its' : List It} {n m : Nat} (h : HpN its n) (hm : m ≤ n) (he : ∀ k, k < m → its'[k]? = its[k]?) : HpN its' m := by
  intro i h0 h1
  have := par_lt h0
  have a := h i h0 (by omega)
  unfold tm at a ⊢
  rw [he _ h1, he _ (by omega)]
  exact a
theorem fix_first {its : List It} {n : Nat} {x y : It} (h : HpN its (n + 1)) (hi : its[0]? = some x) (hj : its[n]? = some y) : FixN (swp its 0 n x y) 0 n := by
  refine ⟨fun k k0 kn hk hpk => ?_, fun k k0 kn hk h0 => by omega⟩
  have := h k k0 (by omega)
  have pk := par_lt k0
  rw [swp_tm hi hj, swp_tm hi hj, if_neg (by omega), if_neg hpk, if_neg (by omega), if_neg hk]
  exact this
end
end Go.Proofs.YtkenjnllegbmjaaGreat

set_option linter.unusedVariables false
namespace Go.Proofs.YtkenjnllegbmjaaGreat
open Go Go.Den Go.Proofs
/-! Times. -/
abbrev timeV (t : Int) : Value := .agg ⟨[.int .i64 (t / G9), .int .i64 (t % G9), .bool true]⟩
theorem tadd_ok (t d : Int) (h0 : 0 ≤ t) (h1 : t ≤ 4611686018427387904) (d0 : 0 ≤ d) (d1 : d ≤ 2305843009213693952) (H : Heap) : CallsH Tryz.prog 13 ⟨[timeV t, .int .i64 d]⟩ H (Gives (timeV (t + d)) H) := by
  refine F13.calls ?_
  unfold F13.go
  have S := Sat.start H
  have e1 : IntKind.wrap .i64 (t / G9 + IntKind.wrap .i64 (Int.tdiv d 1000000000)) = t / G9 + d / G9 := by
    rw [Int.tdiv_eq_ediv_of_nonneg d0, wr (i := d / 1000000000) (by omega) (by omega), wr (by unfold G9; omega) (by unfold G9; omega)]
  have e2 : IntKind.wrap .i64 (t % G9 + Int.tmod d 1000000000) = t % G9 + d % G9 := by
    rw [Int.tmod_eq_emod_of_nonneg d0, wr (by unfold G9; omega) (by unfold G9; omega)]
  (repeat (first | (refine Step.go ?_; intros) | refine iteB_t (by decide) ?_ | refine iteB_f (by decide) ?_ | (refine Duo.mk (by first | omega | exact rfl | decide) ?_; intros) | (refine Duo.mk (Clo.mk (by kernel_rfl)) ?_; intros)))
  simp only [e1, e2] at *
  refine iteB_i (fun h => ?_) (fun h => ?_)
  · have h : t % G9 + d % G9 ≥ 1000000000 := by simpa using h
    have e3 : IntKind.wrap .i64 (t / G9 + d / G9 + 1) = (t + d) / G9 := by
      rw [wr (by unfold G9; omega) (by unfold G9; omega)]; unfold G9 at *; omega
    have e4 : IntKind.wrap .i64 (t % G9 + d % G9 - 1000000000) = (t + d) % G9 := by
      rw [wr (by unfold G9; omega) (by unfold G9; omega)]; unfold G9 at *; omega
    (repeat (first | (refine Step.go ?_; intros) | refine iteB_t (by decide) ?_ | refine iteB_f (by decide) ?_ | (refine Duo.mk (by first | omega | exact rfl | decide) ?_; intros) | (refine Duo.mk (Clo.mk (by kernel_rfl)) ?_; intros)))
    simp only [e3, e4] at *
    refine F13.L0_step ?_
    unfold F13.L0n
    (repeat (first | (refine Step.go ?_; intros) | refine iteB_t (by decide) ?_ | refine iteB_f (by decide) ?_ | (refine Duo.mk (by first | omega | exact rfl | decide) ?_; intros) | (refine Duo.mk (Clo.mk (by kernel_rfl)) ?_; intros)))
    refine iteB_f (decide_eq_false (by unfold G9; omega)) ?_
    (repeat (first | (refine Step.go ?_; intros) | refine iteB_t (by decide) ?_ | refine iteB_f (by decide) ?_ | (refine Duo.mk (by first | omega | exact rfl | decide) ?_; intros) | (refine Duo.mk (Clo.mk (by kernel_rfl)) ?_; intros)))
    exact ⟨rfl, Sat.grown⟩
  · have h : ¬ t % G9 + d % G9 ≥ 1000000000 := by simpa using h
    have e3 : t / G9 + d / G9 = (t + d) / G9 := by unfold G9 at *; omega
    have e4 : t % G9 + d % G9 = (t + d) % G9 := by unfold G9 at *; omega
    simp only [e3, e4] at *
    refine F13.L0_step ?_
    unfold F13.L0n
    (repeat (first | (refine Step.go ?_; intros) | refine iteB_t (by decide) ?_ | refine iteB_f (by decide) ?_ | (refine Duo.mk (by first | omega | exact rfl | decide) ?_; intros) | (refine Duo.mk (Clo.mk (by kernel_rfl)) ?_; intros)))
    refine iteB_f (decide_eq_false (by unfold G9; omega)) ?_
    (repeat (first | (refine Step.go ?_; intros) | refine iteB_t (by decide) ?_ | refine iteB_f (by decide) ?_ | (refine Duo.mk (by first | omega | exact rfl | decide) ?_; intros) | (refine Duo.mk (Clo.mk (by kernel_rfl)) ?_; intros)))
    exact ⟨rfl, Sat.grown⟩
theorem at_ok (t : Int) (h0 : 0 ≤ t) (h1 : t ≤ 2305843009213693952) (H : Heap) : CallsH Tryz.prog 10 ⟨[.int .i64 t]⟩ H (Gives (timeV t) H) := by
  refine F10.calls ?_
  unfold F10.go
  have S := Sat.start H
  have ha := fun H => tadd_ok 0 t (by omega) (by omega) h0 h1 H
  rw [Int.zero_add] at ha
  (repeat (first | (refine Step.go ?_; intros) | refine iteB_t (by decide) ?_ | refine iteB_f (by decide) ?_ | (refine Duo.mk (by first | omega | exact rfl | decide) ?_; intros) | (refine Duo.mk (Clo.mk (by kernel_rfl)) ?_; intros)))
  refine gives_i ‹_› (ha _) ?_
  intro H1 _ S1
  (repeat (first | (refine Step.go ?_; intros) | refine iteB_t (by decide) ?_ | refine iteB_f (by decide) ?_ | (refine Duo.mk (by first | omega | exact rfl | decide) ?_; intros) | (refine Duo.mk (Clo.mk (by kernel_rfl)) ?_; intros)))
  exact ⟨rfl, Sat.grown⟩
theorem sub_ok (t u : Int) (h0 : 0 ≤ t) (h1 : t ≤ 4611686018427387904) (u0 : 0 ≤ u) (u1 : u ≤ 4611686018427387904) (H : Heap) : CallsH Tryz.prog 34 ⟨[timeV t, timeV u]⟩ H (Gives (.int .i64 (t - u)) H) := by
  refine F34.calls ?_
  unfold F34.go
  have S := Sat.start H
  have e1 : IntKind.wrap .i64 (t / G9 - u / G9) = t / G9 - u / G9 := wr (by unfold G9; omega) (by unfold G9; omega)
  have e2 : IntKind.wrap .i64 (t % G9 - u % G9) = t % G9 - u % G9 := wr (by unfold G9; omega) (by unfold G9; omega)
  have e3 : IntKind.wrap .i64 ((t / G9 - u / G9) * 1000000000) = (t / G9 - u / G9) * 1000000000 := wr (by unfold G9; omega) (by unfold G9; omega)
  have e4 : IntKind.wrap .i64 (9223372036854775807 - (t % G9 - u % G9)) = 9223372036854775807 - (t % G9 - u % G9) ∨ True := .inr trivial
  have e5 : IntKind.wrap .i64 ((t / G9 - u / G9) * 1000000000 + (t % G9 - u % G9)) = t - u := by rw [wr (by unfold G9; omega) (by unfold G9; omega)]; unfold G9; omega
  have last : ∀ H1, ExtH H H1 → F34.L0 ((t / G9 - u / G9) * 1000000000) (t % G9 - u % G9) H1 (Gives (.int .i64 (t - u)) H) := by
    intro H1 E
    refine F34.L0_step ?_
    unfold F34.L0n
    rw [e5]
    refine iteB_i (fun h => ?_) (fun h => ?_)
    · have h : t % G9 - u % G9 < 0 := by simpa using h
      rw [wr (i := -9223372036854775808 - (t % G9 - u % G9)) (by unfold G9 at *; omega) (by unfold G9 at *; omega)]
      refine iteB_f (decide_eq_false (by unfold G9; omega)) ?_
      exact ⟨rfl, E⟩
    · exact ⟨rfl, E⟩
  (repeat (first | (refine Step.go ?_; intros) | refine iteB_t (by decide) ?_ | refine iteB_f (by decide) ?_ | (refine Duo.mk (by first | omega | exact rfl | decide) ?_; intros) | (refine Duo.mk (Clo.mk (by kernel_rfl)) ?_; intros)))
  rw [e1]
  refine iteB_f (decide_eq_false (by unfold G9; omega)) ?_
  refine iteB_f (decide_eq_false (by unfold G9; omega)) ?_
  (repeat (first | (refine Step.go ?_; intros) | refine iteB_t (by decide) ?_ | refine iteB_f (by decide) ?_ | (refine Duo.mk (by first | omega | exact rfl | decide) ?_; intros) | (refine Duo.mk (Clo.mk (by kernel_rfl)) ?_; intros)))
  rw [e2, e3]
  refine iteB_i (fun h => ?_) (fun h => ?_)
  · have h : t % G9 - u % G9 > 0 := by simpa using h
    have e6 : IntKind.wrap .i64 (9223372036854775807 - (t % G9 - u % G9)) = 9223372036854775807 - (t % G9 - u % G9) := wr (by unfold G9 at *; omega) (by unfold G9 at *; omega)
    have e7 : ¬ (t / G9 - u / G9) * 1000000000 > IntKind.wrap .i64 (9223372036854775807 - (t % G9 - u % G9)) := by rw [e6]; clear e5 e4 e3 e2 e1 e6 last; unfold G9 at *; omega
    refine iteB_f (decide_eq_false e7) ?_
    exact last _ Sat.grown
  · exact last _ Sat.grown
theorem isZero_ok (t : Int) (H : Heap) : CallsH Tryz.prog 33 ⟨[timeV t]⟩ H (Gives (.bool false) H) := by
  refine F33.calls ?_
  unfold F33.go
  have S := Sat.start H
  (repeat (first | (refine Step.go ?_; intros) | refine iteB_t (by decide) ?_ | refine iteB_f (by decide) ?_ | (refine Duo.mk (by first | omega | exact rfl | decide) ?_; intros) | (refine Duo.mk (Clo.mk (by kernel_rfl)) ?_; intros)))
  exact ⟨rfl, Sat.grown⟩
theorem now_ok {ck : Nat} {t : Int} {l : List HP} {T : TypeId} {H : Heap} (S : Sat H (pt ck (.cells ⟨[.int .i64 (t / G9), .int .i64 (t % G9), .bool true]⟩ T) :: l)) : CallsH Tryz.prog 35 ⟨[pv ck]⟩ H (Gives (timeV t) H) := by
  have ao := atOld (S.at_ (List.mem_cons_self ..))
  have S0 := Sat.start H
  clear S
  refine F35.calls ?_
  unfold F35.go
  (repeat (first | (refine Step.go ?_; intros) | refine iteB_t (by decide) ?_ | refine iteB_f (by decide) ?_ | (refine Duo.mk (by first | omega | exact rfl | decide) ?_; intros) | (refine Duo.mk (Clo.mk (by kernel_rfl)) ?_; intros)))
  exact ⟨rfl, Sat.grown⟩
end Go.Proofs.YtkenjnllegbmjaaGreat

set_option linter.unusedVariables false
namespace Go.Proofs.YtkenjnllegbmjaaGreat
open Go Go.Den Go.Proofs
instance {b : Nat} : EncV pv (.pointer (some ⟨b, 0, none⟩)) b := ⟨rfl⟩
instance : MapT Tryz.prog 205 (Value.int .i64) pv (.pointer none) := ⟨79, 189, by kernel_rfl, KeyT.int (by kernel_rfl), by kernel_rfl⟩
abbrev nqs (mq mb : Nat) (p : Option Addr) (n c : Nat) (its : List It) (m : List (Int × Nat)) (l : List HP) : List HP := qs mq mb p n c its (mp (Value.int .i64) pv mb m :: l)
structure Inv (its : List It) (m : List (Int × Nat)) (n : Nat) : Prop where
  hp : HpN its n
  perm : (its.map fun x => (x.id, x.b)).Perm m
  nd : (its.map (·.id)).Nodup
def kt (x : It) : Int × Int := (x.id, x.t)
theorem map_set_same {α β : Type} {f : α → β} {l : List α} {i : Nat} {x y : α} (hi : l[i]? = some x) (h : f y = f x) : (l.set i y).map f = l.map f := by
  have hil := lt_of hi
  rw [List.map_set]
  refine List.ext_getElem? fun k => ?_
  rw [List.getElem?_set]
  split
  · rename_i hik; subst hik; simp [hi, h, hil]
    rw [List.getElem?_eq_getElem hil] at hi
    injection hi with hi
    rw [hi]
  · rfl
theorem mget_none {κ ν : Type} [DecidableEq κ] {k : κ} : ∀ {m : List (κ × ν)}, mget m k = none → ∀ x ∈ m, x.1 ≠ k
  | [], _, x, h => by cases h
  | (a, v) :: m, h, x, hx => by
    unfold mget at h
    split at h
    · cases h
    · rename_i hk
      rcases List.mem_cons.1 hx with rfl | hx
      · exact fun e => hk e.symm
      · exact mget_none h x hx
theorem set_perm_filter {ν : Type} {id : Int} {t : ν} : ∀ {l : List (Int × ν)} {i : Nat} {t0 : ν}, (l.map (·.1)).Nodup → l[i]? = some (id, t0) → (l.set i (id, t)).Perm (l.filter (fun q => q.1 != id) ++ [(id, t)])
  | [], i, t0, _, h => by simp at h
  | (k, v) :: l, 0, t0, hn, h => by
    simp at h
    obtain ⟨rfl, rfl⟩ := h
    simp only [List.map_cons, List.nodup_cons] at hn
    have : l.filter (fun q => q.1 != k) = l := List.filter_eq_self.2 fun q hq => by
      simp; intro e; exact hn.1 (e ▸ List.mem_map_of_mem hq)
    simp only [List.set_cons_zero, List.filter_cons, bne_self_eq_false, Bool.false_eq_true, if_false, this]
    exact (List.perm_append_singleton _ _).symm
  | (k, v) :: l, i + 1, t0, hn, h => by
    simp only [List.map_cons, List.nodup_cons] at hn
    have hi : l[i]? = some (id, t0) := by simpa using h
    have hk : k ≠ id := fun e => hn.1 (e ▸ List.mem_map_of_mem (f := (·.1)) (List.mem_of_getElem? hi))
    simp only [List.set_cons_succ, List.filter_cons, bne_iff_ne, ne_eq, hk, not_false_eq_true, if_true, List.cons_append]
    exact (set_perm_filter hn.2 hi).cons _
theorem fix_any {its : List It} {n i : Nat} {x y : It} (h : HpN its n) (hi : its[i]? = some x) : FixN (its.set i y) i n := by
  have e : ∀ k, k ≠ i → tm (its.set i y) k = tm its k := fun k hk => by unfold tm; rw [List.getElem?_set_ne (Ne.symm hk)]
  refine ⟨fun k k0 kn hk hpk => ?_, fun k k0 kn hk h0 => ?_⟩
  · rw [e _ hk, e _ hpk]; exact h k k0 kn
  · have pk := par_lt k0
    have pi := par_lt h0
    rw [e _ (by omega), e _ (by omega)]
    have h1 := h k k0 kn
    have h2 := h i h0 (by omega)
    rw [hk] at h1
    omega
theorem up_new {its : List It} {n : Nat} {x : It} (h : HpN its n) (hl : its.length = n) : UpN (its ++ [x]) n (n + 1) := by
  have e : ∀ k, k < n → tm (its ++ [x]) k = tm its k := fun k hk => by unfold tm; rw [List.getElem?_append_left (by omega)]
  refine ⟨fun k k0 kn hk => ?_, fun k k0 kn hk h0 => ?_⟩
  · have pk := par_lt k0
    rw [e _ (by omega), e _ (by omega)]; exact h k k0 (by omega)
  · have pk := par_lt k0
    omega
section
variable {mq mb : Nat} {p : Option Addr} {n c : Nat} {its : List It} {m : List (Int × Nat)} {H : Heap} {l : List HP}
theorem hpush_ok {x : It} {i : Int} (hn : n < 1000000) (hh : HpN its n) (S : Sat H (qs mq mb p n c its (itB x i :: l))) : CallsH Tryz.prog 104 ⟨[qV mq, .iface 189 (.pointer (some ⟨x.b, 0, none⟩))]⟩ H
    (fun e H1 => ∃ p' c' its', e = .returned (.tuple ⟨[]⟩) ∧ its'.Perm (its ++ [x]) ∧ HpN its' (n + 1) ∧ Sat H1 (qs mq mb p' (n + 1) c' its' l)) := by
  refine F104.calls (h1 := qI mq) (x := .mk 189 (.pointer (some ⟨x.b, 0, none⟩))) ?_
  unfold F104.go
  obtain ⟨hl, _⟩ := qs_len S
  refine callI_i (f := 272) (by kernel_rfl) (by kernel_rfl) (by kernel_rfl) ?_
  refine call_of (push_m (x := x) (i := i) (its := its) (p := p) (c := c) (mb := mb) (l := l) hn Sat.fin) ?_
  rintro e H1 ⟨p', c', rfl, S1⟩
  (repeat (first | (refine Step.go ?_; intros) | refine iteB_t (by decide) ?_ | refine iteB_f (by decide) ?_ | (refine Duo.mk (by first | omega | exact rfl | decide) ?_; intros) | (refine Duo.mk (Clo.mk (by kernel_rfl)) ?_; intros)))
  refine len_i S1 ?_
  intro H2 S2
  (repeat (first | (refine Step.go ?_; intros) | refine iteB_t (by decide) ?_ | refine iteB_f (by decide) ?_ | (refine Duo.mk (by first | omega | exact rfl | decide) ?_; intros) | (refine Duo.mk (Clo.mk (by kernel_rfl)) ?_; intros)))
  have e0 : IntKind.wrap .i64 (((n + 1 : Nat) : Int) - 1) = (n : Int) := by rw [wr (by omega) (by omega)]; omega
  rw [e0]
  refine call_of (up_ok (by omega) (by omega) (up_new hh hl) S2) ?_
  rintro e H3 ⟨its', rfl, hp, h2, S3⟩
  (repeat (first | (refine Step.go ?_; intros) | refine iteB_t (by decide) ?_ | refine iteB_f (by decide) ?_ | (refine Duo.mk (by first | omega | exact rfl | decide) ?_; intros) | (refine Duo.mk (Clo.mk (by kernel_rfl)) ?_; intros)))
  exact ⟨p', c', its', rfl, hp, h2, S3⟩
theorem reg_ok {b : Nat} {id t : Int} (hn : n < 1000000) (I : Inv its m n) (S : Sat H (nqs mq mb p n c its m (itB ⟨b, id, t⟩ 0 :: l))) : CallsH Tryz.prog 91 ⟨[.pointer (some ⟨mq, 0, none⟩), .pointer (some ⟨b, 0, none⟩)]⟩ H
    (fun e H1 => ∃ p' n' c' its' m', e = .returned (.tuple ⟨[]⟩) ∧ Inv its' m' n' ∧ n' ≤ n + 1 ∧ (its'.map kt).Perm ((its.map kt).filter (fun q => q.1 != id) ++ [(id, t)]) ∧ Sat H1 (nqs mq mb p' n' c' its' m' l)) := by
  refine F91.calls ?_
  unfold F91.go
  obtain ⟨hl, _⟩ := qs_len S
  (repeat (first | (refine Step.go ?_; intros) | refine iteB_t (by decide) ?_ | refine iteB_f (by decide) ?_ | (refine Duo.mk (by first | omega | exact rfl | decide) ?_; intros) | (refine Duo.mk (Clo.mk (by kernel_rfl)) ?_; intros)))
  refine ⟨fun ob hob => ?_, fun hno => ?_⟩
  · obtain ⟨j, hj, _⟩ := mget_at hob
    have hmem : (id, ob) ∈ its.map fun x => (x.id, x.b) := I.perm.mem_iff.2 (List.mem_of_getElem? hj)
    obtain ⟨⟨xb, xid, t0⟩, hx, hxe⟩ := List.mem_map.1 hmem
    simp only [Prod.mk.injEq] at hxe
    obtain ⟨rfl, rfl⟩ := hxe
    obtain ⟨i, hi⟩ := List.getElem?_of_mem hx
    have hil := lt_of hi
    obtain ⟨R, S1, back⟩ := (S.bring (.there (.there .here))).bigOut hi
    rw [Nat.zero_add] at S1 back
    (repeat (first | (refine Step.go ?_; intros) | refine iteB_t (by decide) ?_ | refine iteB_f (by decide) ?_ | (refine Duo.mk (by first | omega | exact rfl | decide) ?_; intros) | (refine Duo.mk (Clo.mk (by kernel_rfl)) ?_; intros)))
    rename_i H1 S2
    have S3 := S2.to (Ent.trans (Fits.out (m := it i ⟨xb, xid, t⟩ :: star R :: _)) (back ⟨xb, xid, t⟩))
    have S4 : Sat H1 (qs mq mb p n c (its.set i ⟨xb, xid, t⟩) (mp (Value.int .i64) pv mb m :: l)) := by
      have e1 : (its.set i ⟨xb, xid, t⟩).map (·.b) = its.map (·.b) := map_set_same hi rfl
      unfold qs qsl
      rw [e1]
      exact S3.done
    refine call_of (fix_ok (i := i) (by omega) (by omega) (fix_any I.hp hi) S4) ?_
    rintro e H2 ⟨its', rfl, hpm, hh, S5⟩
    (repeat (first | (refine Step.go ?_; intros) | refine iteB_t (by decide) ?_ | refine iteB_f (by decide) ?_ | (refine Duo.mk (by first | omega | exact rfl | decide) ?_; intros) | (refine Duo.mk (Clo.mk (by kernel_rfl)) ?_; intros)))
    refine ⟨p, n, c, its', m, rfl, ⟨hh, ?_, ?_⟩, by omega, ?_, S5⟩
    · have e1 : (its.set i ⟨xb, xid, t⟩).map (fun x => (x.id, x.b)) = its.map (fun x => (x.id, x.b)) := map_set_same hi rfl
      exact ((hpm.map _).trans (e1 ▸ .refl _)).trans I.perm
    · have e1 : (its.set i ⟨xb, xid, t⟩).map (·.id) = its.map (·.id) := map_set_same hi rfl
      exact ((hpm.map _).nodup_iff.2 (by rw [e1]; exact I.nd))
    · refine (hpm.map _).trans ?_
      rw [List.map_set]
      refine set_perm_filter (t0 := t0) ?_ (by simp [hi, kt])
      rw [List.map_map]
      exact I.nd
  · have hnone := mget_none hno
    have hids : ∀ x ∈ its, x.id ≠ id := fun x hx => hnone (x.id, x.b) (I.perm.mem_iff.1 (List.mem_map_of_mem hx))
    (repeat (first | (refine Step.go ?_; intros) | refine iteB_t (by decide) ?_ | refine iteB_f (by decide) ?_ | (refine Duo.mk (by first | omega | exact rfl | decide) ?_; intros) | (refine Duo.mk (Clo.mk (by kernel_rfl)) ?_; intros)))
    refine call_of (hpush_ok (x := ⟨b, id, t⟩) (i := 0) (its := its) (p := p) (n := n) (c := c) (mb := mb) (l := mp (Value.int .i64) pv mb m :: l) hn I.hp Sat.fin) ?_
    rintro e H1 ⟨p', c', its', rfl, hpm, hh, S1⟩
    have hx : (⟨b, id, t⟩ : It) ∈ its' := hpm.mem_iff.2 (by simp)
    obtain ⟨i, hi⟩ := List.getElem?_of_mem hx
    have A := atIt hi
    (repeat (first | (refine Step.go ?_; intros) | refine iteB_t (by decide) ?_ | refine iteB_f (by decide) ?_ | (refine Duo.mk (by first | omega | exact rfl | decide) ?_; intros) | (refine Duo.mk (Clo.mk (by kernel_rfl)) ?_; intros)))
    rename_i H2 S2
    refine ⟨p', n + 1, c', its', _, rfl, ⟨hh, ?_, ?_⟩, by omega, ?_, S2⟩
    · rw [mset_none hno]
      refine (hpm.map _).trans ?_
      simp only [List.map_append, List.map_cons, List.map_nil]
      exact I.perm.append_right _
    · refine (hpm.map _).nodup_iff.2 ?_
      simp only [List.map_append, List.map_cons, List.map_nil]
      rw [List.nodup_append]
      refine ⟨I.nd, by simp, ?_⟩
      intro a ha b' hb
      simp at hb
      subst hb
      obtain ⟨x, hx, rfl⟩ := List.mem_map.1 ha
      exact hids x hx
    · refine (hpm.map _).trans ?_
      simp only [List.map_append, List.map_cons, List.map_nil]
      have : (its.map kt).filter (fun q => q.1 != id) = its.map kt := List.filter_eq_self.2 fun q hq => by
        obtain ⟨x, hx, rfl⟩ := List.mem_map.1 hq
        simpa [kt] using hids x hx
      rw [this]
      exact .refl _
end
end Go.Proofs.YtkenjnllegbmjaaGreat

set_option linter.unusedVariables false
namespace Go.Proofs.YtkenjnllegbmjaaGreat
open Go Go.Den Go.Proofs
section
variable {mq mb : Nat} {p : Option Addr} {n c : Nat} {its : List It} {m : List (Int × Nat)} {H : Heap} {l : List HP}
theorem inv_len (I : Inv its m n) (hl : its.length = n) : m.length = n := by
  have := I.perm.length_eq
  simp at this
  omega
theorem len_ok (I : Inv its m n) (S : Sat H (nqs mq mb p n c its m l)) : CallsH Tryz.prog 88 ⟨[.pointer (some ⟨mq, 0, none⟩)]⟩ H (fun e H1 => e = .returned (.int .i64 n) ∧ Sat H1 (nqs mq mb p n c its m l)) := by
  refine F88.calls ?_
  unfold F88.go
  (repeat (first | (refine Step.go ?_; intros) | refine iteB_t (by decide) ?_ | refine iteB_f (by decide) ?_ | (refine Duo.mk (by first | omega | exact rfl | decide) ?_; intros) | (refine Duo.mk (Clo.mk (by kernel_rfl)) ?_; intros)))
  exact ⟨by rw [inv_len I (qs_len S).1], S⟩
theorem peek_ok (I : Inv its m n) (S : Sat H (nqs mq mb p n c its m l)) : CallsH Tryz.prog 89 ⟨[.pointer (some ⟨mq, 0, none⟩)]⟩ H (fun e H1 => e = .returned (.pointer (match its[0]? with | some x => some ⟨x.b, 0, none⟩ | none => none)) ∧ Sat H1 (nqs mq mb p n c its m l)) := by
  refine F89.calls ?_
  unfold F89.go
  obtain ⟨hl, _⟩ := qs_len S
  refine call_of (len_ok I S) ?_
  rintro e H1 ⟨rfl, S1⟩
  (repeat (first | (refine Step.go ?_; intros) | refine iteB_t (by decide) ?_ | refine iteB_f (by decide) ?_ | (refine Duo.mk (by first | omega | exact rfl | decide) ?_; intros) | (refine Duo.mk (Clo.mk (by kernel_rfl)) ?_; intros)))
  refine iteB_i (fun h => ?_) (fun h => ?_)
  · have h0 : n = 0 := by simp at h; omega
    have : its = [] := List.eq_nil_of_length_eq_zero (by omega)
    subst this
    exact ⟨rfl, S1⟩
  · have h0 : 0 < n := by simp at h; omega
    (repeat (first | (refine Step.go ?_; intros) | refine iteB_t (by decide) ?_ | refine iteB_f (by decide) ?_ | (refine Duo.mk (by first | omega | exact rfl | decide) ?_; intros) | (refine Duo.mk (Clo.mk (by kernel_rfl)) ?_; intros)))
    obtain ⟨x, hx⟩ := get_of (xs := its) (i := 0) (by omega)
    refine S1.idx ⟨by omega, by omega, ?_⟩
    rintro r o rfl
    have a1 := hasIt hx
    (repeat (first | (refine Step.go ?_; intros) | refine iteB_t (by decide) ?_ | refine iteB_f (by decide) ?_ | (refine Duo.mk (by first | omega | exact rfl | decide) ?_; intros) | (refine Duo.mk (Clo.mk (by kernel_rfl)) ?_; intros)))
    rw [hx]
    exact ⟨rfl, S1⟩
end
theorem new_ok (H : Heap) (l : List HP) (S : Sat H l) : CallsH Tryz.prog 44 ⟨[]⟩ H (fun e H1 => ∃ mq mb p, e = .returned (.pointer (some ⟨mq, 0, none⟩)) ∧ Inv [] [] 0 ∧ Sat H1 (nqs mq mb p 0 0 [] [] l)) := by
  refine F44.calls ?_
  unfold F44.go
  (repeat (first | (refine Step.go ?_; intros) | refine iteB_t (by decide) ?_ | refine iteB_f (by decide) ?_ | (refine Duo.mk (by first | omega | exact rfl | decide) ?_; intros) | (refine Duo.mk (Clo.mk (by kernel_rfl)) ?_; intros)))
  rename_i r H1 S1 r1 H2 S2 r2 H3 S3
  simp only [Int.toNat_zero, repZ_zero] at S3
  refine ⟨r2, r, some ⟨r1, 0, none⟩, rfl, ⟨fun i h0 h1 => by omega, by simp, by simp⟩, ?_⟩
  have S4 : Sat H3 (pt r (.map #[] 0) :: pt r1 (.cells ⟨[] ++ List.flatMap cPtr [] ++ []⟩ 189) :: pt r2 (.cells ⟨[.map (some r), .slice (some ⟨r1, 0, none⟩) 0 0]⟩ 207) :: l) := S3.to (.pick (.there (.there .here)) (.pick (.there .here) .refl))
  have S5 := S4.mpNew (Value.int .i64) pv
  have S6 := (S5.bring (.there .here)).to (Ent.slClose (n := 0) (c := 0) (z := 1) (o := 0) rfl (by simp) (by omega) rfl (by simp))
  refine S6.to ?_
  refine Ent.pick (.there (.there .here)) (.cons ?_)
  refine Ent.star (m := []) ?_
  exact .refl
end Go.Proofs.YtkenjnllegbmjaaGreat
