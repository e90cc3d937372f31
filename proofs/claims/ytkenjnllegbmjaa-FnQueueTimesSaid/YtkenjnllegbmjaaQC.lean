/- What functions of this seat do, each proved by a walk; no condition. -/
import Derived.Test.YtkenjnllegbmjaaQB
import Derived.Test.YtkenjnllegbmjaaDenK
set_option linter.unusedVariables false
namespace Go.Proofs.Ytkenjnllegbmjaa
open Go Go.Den Go.Proofs
/-! Times, and the elements of a queue. -/
def before (s n s' n' : Int) : Bool := decide (s < s') || (s == s' && decide (n < n'))
theorem before_ok (s n s' n' : Int) (H : Heap) (l : List HP) (S : Sat H l) : CallsH Try.prog 44 ⟨[.agg ⟨[.int .i64 s, .int .i64 n, .bool true]⟩, .agg ⟨[.int .i64 s', .int .i64 n', .bool true]⟩]⟩ H
    (fun e H1 => e = .returned (.bool (before s n s' n')) ∧ Sat H1 l) := by
  refine F44.calls ?_
  unfold F44.go
  (repeat (first | (refine Step.go ?_; intros) | refine iteB_t (by decide) ?_ | refine iteB_f (by decide) ?_ | (refine Duo.mk (by first | omega | exact rfl | decide) ?_; intros) | (refine Duo.mk (Clo.mk (by kernel_rfl)) ?_; intros)))
  refine iteB_i (fun h => ?_) (fun h => ?_)
  · simp only [decide_eq_true_eq] at h
    exact ⟨by simp [before, h], Sat.fin⟩
  · simp only [decide_eq_false_iff_not] at h
    (repeat (first | (refine Step.go ?_; intros) | refine iteB_t (by decide) ?_ | refine iteB_f (by decide) ?_ | (refine Duo.mk (by first | omega | exact rfl | decide) ?_; intros) | (refine Duo.mk (Clo.mk (by kernel_rfl)) ?_; intros)))
    refine iteB_i (fun h2 => ?_) (fun h2 => ?_)
    · (repeat (first | (refine Step.go ?_; intros) | refine iteB_t (by decide) ?_ | refine iteB_f (by decide) ?_ | (refine Duo.mk (by first | omega | exact rfl | decide) ?_; intros) | (refine Duo.mk (Clo.mk (by kernel_rfl)) ?_; intros)))
      simp only [beq_iff_eq] at h2
      subst h2
      exact ⟨by simp [before], Sat.fin⟩
    · simp only [beq_eq_false_iff_ne] at h2
      exact ⟨by simp [before, h, h2], Sat.fin⟩

abbrev G9 : Int := 1000000000
theorem before_eq (t u : Int) : before (t / G9) (t % G9) (u / G9) (u % G9) = decide (t < u) := by
  unfold before
  rw [Bool.eq_iff_iff]
  simp only [Bool.or_eq_true, Bool.and_eq_true, decide_eq_true_eq, beq_iff_eq, G9]
  omega
structure It where
  b : Nat
  id : Int
  t : Int
abbrev itemCells (x : It) (i : Int) : List Value := [.int .i64 x.id, .int .i64 (x.t / G9), .int .i64 (x.t % G9), .bool true, .int .i64 i]
abbrev it (i : Nat) (x : It) : HP := pt x.b (.cells ⟨itemCells x i⟩ 52)
abbrev cPtr (b : Nat) : List Value := [.pointer (some ⟨b, 0, none⟩)]
instance {b : Nat} : Enc cPtr [.pointer (some ⟨b, 0, none⟩)] b := ⟨rfl⟩
abbrev qsl (p : Option Addr) (n c : Nat) (its : List It) : HP := sl cPtr 34 1 p n c (its.map (·.b))
theorem hasIt {its : List It} {i : Nat} {x : It} (h : its[i]? = some x) : HasI (its.map (·.b)) (i : Int) x.b := ⟨by simp [h]⟩
theorem atIt {its : List It} {i : Nat} {x : It} (h : its[i]? = some x) : At x.b (.cells ⟨itemCells x i⟩ 52) (bigs it 0 its) := .of (by have := bigs_mem (f := it) (k := 0) h; rwa [Nat.zero_add] at this)
theorem less_ok {p : Option Addr} {n c : Nat} {its : List It} {i j : Nat} {x y : It} (hi : its[i]? = some x) (hj : its[j]? = some y) (H : Heap) (l : List HP) (S : Sat H (qsl p n c its :: star (bigs it 0 its) :: l)) : CallsH Try.prog 42 ⟨[.slice p n c, .int .i64 i, .int .i64 j]⟩ H
    (fun e H1 => e = .returned (.bool (decide (x.t < y.t))) ∧ Sat H1 (qsl p n c its :: star (bigs it 0 its) :: l)) := by
  refine F42.calls ?_
  unfold F42.go
  have hn := (S.slLen (List.mem_cons_self ..)).1
  have h1 := lt_of hi
  have h2 := lt_of hj
  simp only [List.length_map] at hn
  refine S.idx ⟨by omega, by omega, ?_⟩
  rintro r o rfl
  (repeat (first | (refine Step.go ?_; intros) | refine iteB_t (by decide) ?_ | refine iteB_f (by decide) ?_ | (refine Duo.mk (by first | omega | exact rfl | decide) ?_; intros) | (refine Duo.mk (Clo.mk (by kernel_rfl)) ?_; intros)))
  have a1 := hasIt hi
  have a2 := hasIt hj
  have a3 := atIt hi
  have a4 := atIt hj
  (repeat (first | (refine Step.go ?_; intros) | refine iteB_t (by decide) ?_ | refine iteB_f (by decide) ?_ | (refine Duo.mk (by first | omega | exact rfl | decide) ?_; intros) | (refine Duo.mk (Clo.mk (by kernel_rfl)) ?_; intros)))
  refine call_of (before_ok _ _ _ _ _ _ ‹_›) ?_
  rintro e H1 ⟨rfl, S1⟩
  (repeat (first | (refine Step.go ?_; intros) | refine iteB_t (by decide) ?_ | refine iteB_f (by decide) ?_ | (refine Duo.mk (by first | omega | exact rfl | decide) ?_; intros) | (refine Duo.mk (Clo.mk (by kernel_rfl)) ?_; intros)))
  exact ⟨by rw [before_eq], Sat.fin⟩

/-- Two elements change places. -/
def swp {α : Type} (l : List α) (i j : Nat) (x y : α) : List α := (l.set i y).set j x
theorem swap_ok {p : Option Addr} {n c : Nat} {its : List It} {i j : Nat} {x y : It} (hi : its[i]? = some x) (hj : its[j]? = some y) (H : Heap) (l : List HP) (S : Sat H (qsl p n c its :: star (bigs it 0 its) :: l)) : CallsH Try.prog 43 ⟨[.slice p n c, .int .i64 i, .int .i64 j]⟩ H
    (fun e H1 => e = .returned (.tuple ⟨[]⟩) ∧ Sat H1 (qsl p n c (swp its i j x y) :: star (bigs it 0 (swp its i j x y)) :: l)) := by
  refine F43.calls ?_
  unfold F43.go
  have hn := (S.slLen (List.mem_cons_self ..)).1
  have h1 := lt_of hi
  have h2 := lt_of hj
  simp only [List.length_map] at hn
  refine S.idx ⟨by omega, by omega, ?_⟩
  rintro r o rfl
  have a1 := hasIt hi
  have a2 := hasIt hj
  (repeat (first | (refine Step.go ?_; intros) | refine iteB_t (by decide) ?_ | refine iteB_f (by decide) ?_ | (refine Duo.mk (by first | omega | exact rfl | decide) ?_; intros) | (refine Duo.mk (Clo.mk (by kernel_rfl)) ?_; intros)))
  have e0 : ∀ (k : Int) (b : Nat), (its.map (·.b))[k.toNat]? = some b → True := fun _ _ _ => trivial
  have b1 : HasI ((its.map (·.b)).set (Int.toNat (i : Int)) y.b) (j : Int) y.b := ⟨by
    simp only [Int.toNat_natCast, List.getElem?_set, List.length_map, List.getElem?_map, hj, Option.map_some]
    split <;> simp⟩
  have b2 : HasI (((its.map (·.b)).set (Int.toNat (i : Int)) y.b).set (Int.toNat (j : Int)) x.b) (j : Int) x.b := ⟨by
    simp [h2]⟩
  have b3 : HasI (((its.map (·.b)).set (Int.toNat (i : Int)) y.b).set (Int.toNat (j : Int)) x.b) (i : Int) y.b := ⟨by
    simp only [Int.toNat_natCast, List.getElem?_set, List.length_map, List.length_set]
    split
    · rename_i hij; subst hij; rw [hi] at hj; cases hj; simp
    · simp⟩
  have e1 : ((its.map (·.b)).set (Int.toNat (i : Int)) y.b).set (Int.toNat (j : Int)) x.b = (swp its i j x y).map (·.b) := by simp [swp, List.map_set]
  (repeat (first | (refine Step.go ?_; intros) | refine iteB_t (by decide) ?_ | refine iteB_f (by decide) ?_ | (refine Duo.mk (by first | omega | exact rfl | decide) ?_; intros) | (refine Duo.mk (Clo.mk (by kernel_rfl)) ?_; intros)))
  rename_i H2 S2
  rw [e1] at S2 b2 b3
  by_cases hij : i = j
  · subst hij
    rw [hi] at hj
    cases hj
    obtain ⟨R, S4, back⟩ := (S2.bring (.there .here)).bigOut hi
    rw [Nat.zero_add] at S4 back
    have es : swp its i i x x = its.set i x := by simp [swp]
    have back := back x
    rw [← es] at back
    (repeat (first | (refine Step.go ?_; intros) | refine iteB_t (by decide) ?_ | refine iteB_f (by decide) ?_ | (refine Duo.mk (by first | omega | exact rfl | decide) ?_; intros) | (refine Duo.mk (Clo.mk (by kernel_rfl)) ?_; intros)))
    exact ⟨rfl, Sat.to ‹_› (back.trans (.pick (.there .here) (.pick .here .refl)))⟩
  · obtain ⟨R, S4, back⟩ := (S2.bring (.there .here)).bigOut2 hi hj hij
    rw [Nat.zero_add, Nat.zero_add] at S4 back
    (repeat (first | (refine Step.go ?_; intros) | refine iteB_t (by decide) ?_ | refine iteB_f (by decide) ?_ | (refine Duo.mk (by first | omega | exact rfl | decide) ?_; intros) | (refine Duo.mk (Clo.mk (by kernel_rfl)) ?_; intros)))
    refine ⟨rfl, ?_⟩
    have S5 := Sat.to ‹_› (Ent.trans (.pick (.there .here) (.pick .here .refl)) (back y x))
    exact S5.to (.pick (.there .here) (.pick .here .refl))
end Go.Proofs.Ytkenjnllegbmjaa
