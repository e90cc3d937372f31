/- What functions of this seat do, each proved by a walk; no condition. -/
import Derived.Test.YtobolifgehagfaaGreatRF
set_option linter.unusedVariables false
set_option linter.unusedSimpArgs false
set_option linter.unnecessarySimpa false
namespace Go.Proofs.YtobolifgehagfaaGreat
open Go Go.Den Go.Proofs
/-! Lists of events held against each other; what a batch is. -/
theorem eq_refl_ev (x : EV) : [x.gone == x.gone, [x.key == x.key, x.val == x.val, x.c == x.c, x.m == x.m, x.v == x.v, x.l == x.l].all id].all id = true := by
  have e : ∀ a : ByteArray, (a == a) = true := fun a => by rw [ba_beq]; simp
  simp [e]
theorem RowsAt.pre {α : Type} {f : α → List Value} {z : Nat} {H : Heap} {p : Option Addr} {xs : List α} (h : RowsAt f z H p xs) (k : Nat) : RowsAt f z H p (xs.take k) := by
  rcases h with h | ⟨a, h1, h2⟩
  · subst h; rw [List.take_nil]; exact .inl rfl
  · refine .inr ⟨a, h1, fun i x hi => h2 i x ?_⟩
    rw [List.getElem?_take] at hi
    split at hi
    · exact hi
    · cases hi
theorem slP_zero (p : Option Addr) (c z : Nat) : slP p 0 c z = p := by
  unfold slP
  split
  · rfl
  · rw [Nat.zero_mul]
    cases p with
    | none => rfl
    | some a => simp [Addr.add]
section
variable {H H0 : Heap} {l : List HP}
theorem same_ok {xs : List EV} {p q : Option Addr} {n c d : Nat} (hR : RowsAt EV.cells 7 H0 p xs) (hQ : RowsAt EV.cells 7 H0 q xs) (hn : xs.length = n) (hb : n ≤ 1000000) : CallsH Tryz.prog 11 ⟨[.slice p n c, .slice q n d]⟩ H0 (Gives (.bool true) H0) := by
  refine F11.calls ?_
  unfold F11.go
  refine iteB_f (by simp) ?_
  have R0 : RowsC H0 p EV.cells 7 xs := ⟨hR⟩
  have loop : ∀ (k i : Nat), i + k = n → F11.L0 p n c q n d (n : Nat) (i : Nat) H0 (Gives (.bool true) H0) := by
    intro k
    induction k with
    | zero =>
      intro i hk
      refine F11.L0_step ?_
      unfold F11.L0n
      refine iteB_f (by simp; omega) ?_
      exact ⟨rfl, ExtH.refl _⟩
    | succ k ih =>
      intro i hk
      obtain ⟨x, hx⟩ : ∃ x, xs[i]? = some x := get_of (by omega)
      have hI := HasI.nat hx
      refine F11.L0_step ?_
      unfold F11.L0n
      refine iteB_t (by simp; omega) ?_
      refine R0.idx hn ⟨by omega, by omega, ?_⟩
      intro a ha
      subst ha
      have R1 : RowsC H0 q EV.cells 7 xs := ⟨hQ⟩
      refine R1.idx hn ⟨by omega, by omega, ?_⟩
      intro a2 ha2
      subst ha2
      have S := Sat.start H0
      (repeat (first | (refine Step.go ?_; intros) | refine iteB_t (by decide) ?_ | refine iteB_f (by decide) ?_ | (refine Duo.mk (by first | omega | exact rfl | decide) ?_; intros) | (refine Duo.mk (Clo.mk (by kernel_rfl)) ?_; intros)))
      refine eqEv (x := x) (y := x) ?_
      rw [eq_refl_ev]
      (repeat (first | (refine Step.go ?_; intros) | refine iteB_t (by decide) ?_ | refine iteB_f (by decide) ?_ | (refine Duo.mk (by first | omega | exact rfl | decide) ?_; intros) | (refine Duo.mk (Clo.mk (by kernel_rfl)) ?_; intros)))
      rw [wr64 (by omega) (by omega), show ((i : Nat) : Int) + 1 = ((i + 1 : Nat) : Int) by omega]
      exact ih (i + 1) (by omega)
  exact loop n 0 (by omega)
end
/-- What a batch is after some events. -/
def BInv (ps : List PE) (b : BT) (i : Nat) : Prop :=
  (b.evs = ps.take i ∧ 0 ≤ b.revs ∧ b.revs ≤ 1000 ∧ b.more = 0) ∨
  (b.revs = 1001 ∧ ∃ j, ∃ x y : PE, j < i ∧ 0 < j ∧ b.evs = ps.take j ∧ ps[j]? = some x ∧ ps[j - 1]? = some y ∧ x.2.m > y.2.m ∧ b.more = x.2.m)
theorem inv_step {ps : List PE} {b : BT} {i : Nat} {x : PE} (h : BInv ps b i) (hx : ps[i]? = some x) : BInv ps (b.add x) (i + 1) := by
  have ht : ps.take (i + 1) = ps.take i ++ [x] := by rw [List.take_add_one, hx]; rfl
  rcases h with ⟨h1, h2, h3, h4⟩ | ⟨h1, j, y, z, h2, h3⟩
  · unfold BT.add
    rw [if_neg (by omega)]
    by_cases he : b.evs.length = 0
    · rw [if_pos he]
      exact .inl ⟨by rw [ht, h1], by show (0 : Int) ≤ 1; omega, by show (1 : Int) ≤ 1000; omega, h4⟩
    · rw [if_neg he]
      by_cases hm : x.2.m > lastM b.evs
      · rw [if_pos hm]
        by_cases hr : b.revs + 1 > 1000
        · rw [if_pos hr]
          refine .inr ⟨by show b.revs + 1 = 1001; omega, ?_⟩
          have hi : i < ps.length := lt_of hx
          have hi0 : 0 < i := by
            rcases Nat.eq_zero_or_pos i with h0 | h0
            · subst h0; rw [h1] at he; simp at he
            · exact h0
          obtain ⟨y, hy⟩ : ∃ y, ps[i - 1]? = some y := get_of (by omega)
          refine ⟨i, x, y, by omega, hi0, h1, hx, hy, ?_, rfl⟩
          have : lastM b.evs = y.2.m := by
            unfold lastM
            rw [h1, List.getLast?_eq_getElem?, List.length_take, Nat.min_eq_left (by omega), List.getElem?_take, if_pos (by omega), hy]
          rw [this] at hm; exact hm
        · rw [if_neg hr]
          exact .inl ⟨by rw [ht, h1], by show (0 : Int) ≤ b.revs + 1; omega, by show b.revs + 1 ≤ 1000; omega, h4⟩
      · rw [if_neg hm]
        exact .inl ⟨by rw [ht, h1], h2, h3, h4⟩
  · unfold BT.add
    rw [if_pos (by omega)]
    exact .inr ⟨h1, j, y, z, by omega, h3⟩
theorem inv_run (ps : List PE) : ∀ i, i ≤ ps.length → BInv ps (runB (ps.take i)) i
  | 0, _ => .inl ⟨by simp [runB], by show (0 : Int) ≤ 0; omega, by show (0 : Int) ≤ 1000; omega, rfl⟩
  | i + 1, h => by
    obtain ⟨x, hx⟩ : ∃ x, ps[i]? = some x := get_of (by omega)
    have := inv_step (inv_run ps i (by omega)) hx
    have ht : ps.take (i + 1) = ps.take i ++ [x] := by rw [List.take_add_one, hx]; rfl
    rw [ht]
    unfold runB at *
    rw [List.foldl_append]
    exact this
/-- What a batch tells: a beginning of the events, up to where a revision grows. -/
theorem batch_law {ps : List PE} {xs : List EV} (h : ps.map (·.2) = xs) : ∃ N, N = (runB ps).evs.length ∧ N ≤ xs.length ∧ (runB ps).evs.map (·.2) = xs.take N ∧ (N = xs.length → (runB ps).more = 0) ∧ (N < xs.length → 0 < N ∧ ∃ x y, xs[N]? = some x ∧ xs[N - 1]? = some y ∧ x.m > y.m ∧ (runB ps).more = x.m) := by
  have hl : ps.length = xs.length := by rw [← h, List.length_map]
  have hi := inv_run ps ps.length (Nat.le_refl _)
  rw [List.take_length] at hi
  rcases hi with ⟨h1, h2, h3, h4⟩ | ⟨h1, j, x, y, h2, h3, h5, h6, h7, h8, h9⟩
  · rw [List.take_length] at h1
    refine ⟨xs.length, by rw [h1, hl], Nat.le_refl _, by rw [h1, h, List.take_length], fun _ => h4, fun h => absurd h (Nat.lt_irrefl _)⟩
  · refine ⟨j, by rw [h5, List.length_take]; omega, by omega, by rw [h5, List.map_take, h], fun e => by omega, fun _ => ⟨h3, x.2, y.2, ?_, ?_, h8, h9⟩⟩
    · rw [← h, List.getElem?_map, h6]; rfl
    · rw [← h, List.getElem?_map, h7]; rfl
end Go.Proofs.YtobolifgehagfaaGreat
