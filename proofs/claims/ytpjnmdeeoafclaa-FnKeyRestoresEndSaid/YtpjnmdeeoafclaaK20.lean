/- What functions of this seat do, each proved by a walk; no condition. -/
import Derived.Test.YtpjnmdeeoafclaaKY
set_option linter.unusedVariables false
set_option linter.unnecessarySimpa false
set_option linter.unusedSimpArgs false
namespace Go.Proofs.Ytpjnmdeeoafclaa
open Go Go.Den Go.Proofs
/-! The reference reads changes. -/
abbrev vC (v : Vs) : List Value := [.int .i64 v.rev.1, .int .i64 v.rev.2, .int .i64 v.cr.1, .int .i64 v.cr.2, .int .i64 v.ver, .bool v.gone]
instance {a b c d e : Int} {g : Bool} : Enc vC [.int .i64 a, .int .i64 b, .int .i64 c, .int .i64 d, .int .i64 e, .bool g] ⟨(a, b), (c, d), e, g⟩ := ⟨rfl⟩
theorem vC_len (v : Vs) : (vC v).length = 6 := rfl
theorem vC_cell (v : Vs) : ∀ x ∈ vC v, isCell x = true := by
  intro x hx
  simp [vC] at hx
  rcases hx with rfl | rfl | rfl | rfl | rfl | rfl <;> rfl
section
variable {H : Heap} {p : Option Addr} {n c : Nat} {l : List Vs} {t : Int}
theorem sLives (hR : RowsAt vC 6 H p l) (hl : l.length = n) (hn : n < 1000000) : CallsH Try.prog 15 ⟨[.slice p n c]⟩ H (Gives (.bool (livesS l)) H) := by
  have R0 : RowsC H p vC 6 l := ⟨hR⟩
  have S := Sat.start H
  refine F15.calls ?_
  unfold F15.go
  refine iteB_i (fun h => ?_) (fun h => ?_)
  · have h0 : l ≠ [] := by intro h0; rw [h0] at hl; simp at h hl; omega
    have w1 : IntKind.wrap .i64 ((n : Int) - 1) = (n : Int) - 1 := wr (by omega) (by omega)
    have A1 := hasLast' (d := (⟨z0, z0, 0, false⟩ : Vs)) hl h0 hn
    have hpos : 0 < l.length := List.length_pos_iff.2 h0
    refine R0.idx hl ⟨by omega, by omega, ?_⟩
    rintro a rfl
    (repeat (first | (refine Step.go ?_; intros) | refine iteB_t (by decide) ?_ | refine iteB_f (by decide) ?_ | (refine Duo.mk (by first | omega | exact rfl | decide) ?_; intros) | (refine Duo.mk (Clo.mk (by kernel_rfl)) ?_; intros)))
    refine ⟨?_, ExtH.refl H⟩
    unfold livesS
    rw [List.getLastD_eq_getLast?, List.getLast?_eq_some_getLast h0]
    rfl
  · have : l = [] := List.eq_nil_of_length_eq_zero (by have := of_decide_eq_false h; omega)
    subst this
    exact ⟨rfl, ExtH.refl H⟩
theorem sMod (hR : RowsAt vC 6 H p l) (hl : l.length = n) (hn : n < 1000000) : CallsH Try.prog 16 ⟨[.slice p n c]⟩ H (Gives (.agg ⟨[.int .i64 (modS l).1, .int .i64 (modS l).2]⟩) H) := by
  have R0 : RowsC H p vC 6 l := ⟨hR⟩
  have S := Sat.start H
  refine F16.calls ?_
  unfold F16.go
  (repeat (first | (refine Step.go ?_; intros) | refine iteB_t (by decide) ?_ | refine iteB_f (by decide) ?_ | (refine Duo.mk (by first | omega | exact rfl | decide) ?_; intros) | (refine Duo.mk (Clo.mk (by kernel_rfl)) ?_; intros)))
  refine iteB_i (fun h => ?_) (fun h => ?_)
  · have h := eq_of_beq h
    have : l = [] := List.eq_nil_of_length_eq_zero (by omega)
    subst this
    (repeat (first | (refine Step.go ?_; intros) | refine iteB_t (by decide) ?_ | refine iteB_f (by decide) ?_ | (refine Duo.mk (by first | omega | exact rfl | decide) ?_; intros) | (refine Duo.mk (Clo.mk (by kernel_rfl)) ?_; intros)))
    exact ⟨rfl, Sat.grown⟩
  · have h0 : l ≠ [] := by intro h0; rw [h0] at hl; simp at h hl; omega
    have w1 : IntKind.wrap .i64 ((n : Int) - 1) = (n : Int) - 1 := wr (by omega) (by omega)
    have A1 := hasLast' (d := (⟨z0, z0, 0, false⟩ : Vs)) hl h0 hn
    have hpos : 0 < l.length := List.length_pos_iff.2 h0
    refine R0.idx hl ⟨by omega, by omega, ?_⟩
    rintro a rfl
    (repeat (first | (refine Step.go ?_; intros) | refine iteB_t (by decide) ?_ | refine iteB_f (by decide) ?_ | (refine Duo.mk (by first | omega | exact rfl | decide) ?_; intros) | (refine Duo.mk (Clo.mk (by kernel_rfl)) ?_; intros)))
    refine ⟨?_, Sat.grown⟩
    unfold modS
    rw [List.getLastD_eq_getLast?, List.getLast?_eq_some_getLast h0]
    rfl
theorem sLess {a b : Rv} : CallsH Try.prog 27 ⟨[.agg ⟨[.int .i64 a.1, .int .i64 a.2]⟩, .agg ⟨[.int .i64 b.1, .int .i64 b.2]⟩]⟩ H (Gives (.bool (gtB b a)) H) := by
  have S := Sat.start H
  refine F27.calls ?_
  unfold F27.go
  (repeat (first | (refine Step.go ?_; intros) | refine iteB_t (by decide) ?_ | refine iteB_f (by decide) ?_ | (refine Duo.mk (by first | omega | exact rfl | decide) ?_; intros) | (refine Duo.mk (Clo.mk (by kernel_rfl)) ?_; intros)))
  refine iteB_i (fun h => ?_) (fun h => ?_)
  · have h := of_decide_eq_true h
    exact ⟨by rw [show gtB b a = true by unfold gtB; rw [decide_eq_true (p := b.1 > a.1) (by omega)]; rfl], Sat.grown⟩
  · have h := of_decide_eq_false h
    (repeat (first | (refine Step.go ?_; intros) | refine iteB_t (by decide) ?_ | refine iteB_f (by decide) ?_ | (refine Duo.mk (by first | omega | exact rfl | decide) ?_; intros) | (refine Duo.mk (Clo.mk (by kernel_rfl)) ?_; intros)))
    refine iteB_i (fun h2 => ?_) (fun h2 => ?_)
    · have h2 := eq_of_beq h2
      (repeat (first | (refine Step.go ?_; intros) | refine iteB_t (by decide) ?_ | refine iteB_f (by decide) ?_ | (refine Duo.mk (by first | omega | exact rfl | decide) ?_; intros) | (refine Duo.mk (Clo.mk (by kernel_rfl)) ?_; intros)))
      exact ⟨by rw [show gtB b a = decide (a.2 < b.2) by unfold gtB; rw [decide_eq_false (p := b.1 > a.1) (by omega), decide_eq_true (p := b.1 = a.1) h2.symm]; rfl], Sat.grown⟩
    · have h2 : ¬ a.1 = b.1 := by intro h3; rw [h3] at h2; simp at h2
      exact ⟨by rw [show gtB b a = false by unfold gtB; rw [decide_eq_false (p := b.1 > a.1) (by omega), decide_eq_false (p := b.1 = a.1) (fun h3 => h2 h3.symm)]; rfl], Sat.grown⟩
theorem sIx {a : Rv} : CallsH Try.prog 13 ⟨[.agg ⟨[.int .i64 a.1, .int .i64 a.2]⟩]⟩ H (Gives (.bool (ixRev a)) H) := by
  have S := Sat.start H
  refine F13.calls ?_
  unfold F13.go
  (repeat (first | (refine Step.go ?_; intros) | refine iteB_t (by decide) ?_ | refine iteB_f (by decide) ?_ | (refine Duo.mk (by first | omega | exact rfl | decide) ?_; intros) | (refine Duo.mk (Clo.mk (by kernel_rfl)) ?_; intros)))
  refine iteB_i (fun h => ?_) (fun h => ?_)
  · have h := of_decide_eq_true h
    (repeat (first | (refine Step.go ?_; intros) | refine iteB_t (by decide) ?_ | refine iteB_f (by decide) ?_ | (refine Duo.mk (by first | omega | exact rfl | decide) ?_; intros) | (refine Duo.mk (Clo.mk (by kernel_rfl)) ?_; intros)))
    exact ⟨by rw [show ixRev a = decide (a.2 ≥ 0) by unfold ixRev; rw [decide_eq_true (p := 1 ≤ a.1) h]; rfl], Sat.grown⟩
  · have h := of_decide_eq_false h
    exact ⟨by rw [show ixRev a = false by unfold ixRev; rw [decide_eq_false (p := 1 ≤ a.1) h]; rfl], Sat.grown⟩
theorem last_loop [R0 : RowsC H p vC 6 l] (hl : l.length = n) (hn : n < 1000000) : ∀ (k : Nat) (Z : Int), k ≤ n → Z = (k : Int) - 1 → F52.L0 p n c t Z H (Gives (.int .i64 (wkI (wkO t (l.map (·.rev)) k))) H) := by
  intro k
  have S := Sat.start H
  induction k with
  | zero =>
    intro Z hk hZ
    subst hZ
    refine F52.L0_step ?_
    unfold F52.L0n
    refine iteB_f (by rfl) ?_
    exact ⟨rfl, ExtH.refl H⟩
  | succ k ih =>
    intro Z hk hZ
    obtain rfl : Z = (k : Int) := by omega
    obtain ⟨v, hv⟩ := get_of (l := l) (i := k) (by omega)
    have A1 : HasI l (k : Int) v := ⟨by simpa using hv⟩
    have w1 : IntKind.wrap .i64 ((k : Int) - 1) = (k : Int) - 1 := wr (by omega) (by omega)
    have ew := wkO_succ (t := t) (rs := l.map (·.rev)) (k := k) (x := v.rev) (by rw [List.getElem?_map, hv]; rfl)
    refine F52.L0_step ?_
    unfold F52.L0n
    refine iteB_t (by rw [decide_eq_true_iff]; omega) ?_
    refine R0.idx hl ⟨by omega, by omega, ?_⟩
    rintro a rfl
    (repeat (first | (refine Step.go ?_; intros) | refine iteB_t (by decide) ?_ | refine iteB_f (by decide) ?_ | (refine Duo.mk (by first | omega | exact rfl | decide) ?_; intros) | (refine Duo.mk (Clo.mk (by kernel_rfl)) ?_; intros)))
    refine iteB_i (fun h => ?_) (fun h => ?_)
    · have h := of_decide_eq_true h
      refine F52.L1_step ?_
      unfold F52.L1n
      rw [w1, ew, if_neg (by omega)]
      exact ih _ (by omega) rfl
    · have h := of_decide_eq_false h
      rw [ew, if_pos (by omega)]
      exact ⟨rfl, ExtH.refl H⟩
theorem sLast (hR : RowsAt vC 6 H p l) (hl : l.length = n) (hn : n < 1000000) : CallsH Try.prog 52 ⟨[.slice p n c, .int .i64 t]⟩ H (Gives (.int .i64 (wkI (lastI t l))) H) := by
  have R0 : RowsC H p vC 6 l := ⟨hR⟩
  refine F52.calls ?_
  unfold F52.go
  unfold lastI
  rw [hl]
  exact last_loop hl hn n _ (Nat.le_refl _) (by rw [wr (by omega) (by omega)])
/-- Whether a change stays, as the reference asks it. -/
def stayI (t : Int) (l : List Vs) (i : Nat) (v : Vs) : Bool := decide (v.rev.1 > t) || (decide (lastI t l = some i) && stayV t v)
theorem sStays {i : Nat} {v : Vs} (hR : RowsAt vC 6 H p l) (hl : l.length = n) (hn : n < 1000000) (hv : l[i]? = some v) : CallsH Try.prog 24 ⟨[.slice p n c, .int .i64 (i : Int), .int .i64 t]⟩ H (Gives (.bool (stayI t l i v)) H) := by
  have R0 : RowsC H p vC 6 l := ⟨hR⟩
  have S := Sat.start H
  have hi := (List.getElem?_eq_some_iff.1 hv).1
  have A1 : HasI l (i : Int) v := ⟨by simpa using hv⟩
  refine F24.calls ?_
  unfold F24.go
  refine R0.idx hl ⟨by omega, by omega, ?_⟩
  rintro a rfl
  (repeat (first | (refine Step.go ?_; intros) | refine iteB_t (by decide) ?_ | refine iteB_f (by decide) ?_ | (refine Duo.mk (by first | omega | exact rfl | decide) ?_; intros) | (refine Duo.mk (Clo.mk (by kernel_rfl)) ?_; intros)))
  rename_i H1 S1
  refine iteB_i (fun h => ?_) (fun h => ?_)
  · have h := of_decide_eq_true h
    exact ⟨by rw [show stayI t l i v = true by unfold stayI; rw [decide_eq_true h]; rfl], Sat.grown⟩
  · have h := of_decide_eq_false h
    have E1 : ExtH H H1 := Sat.grown
    refine gives_i S1 (sLast (t := t) (hR.ext E1) hl hn) ?_
    intro H2 E2 S2
    (repeat (first | (refine Step.go ?_; intros) | refine iteB_t (by decide) ?_ | refine iteB_f (by decide) ?_ | (refine Duo.mk (by first | omega | exact rfl | decide) ?_; intros) | (refine Duo.mk (Clo.mk (by kernel_rfl)) ?_; intros)))
    have e0 : stayI t l i v = (decide (lastI t l = some i) && stayV t v) := by unfold stayI; rw [decide_eq_false h]; rfl
    refine iteB_i (fun h2 => ?_) (fun h2 => ?_)
    · have h2 := eq_of_beq h2
      have h3 : lastI t l = some i := by
        cases hw : lastI t l with
        | none => rw [hw] at h2; exfalso; simp [wkI] at h2
        | some j => rw [hw] at h2; simp only [wkI] at h2; congr 1; omega
      rw [e0, decide_eq_true h3]
      (repeat (first | (refine Step.go ?_; intros) | refine iteB_t (by decide) ?_ | refine iteB_f (by decide) ?_ | (refine Duo.mk (by first | omega | exact rfl | decide) ?_; intros) | (refine Duo.mk (Clo.mk (by kernel_rfl)) ?_; intros)))
      refine iteB_i (fun h4 => ?_) (fun h4 => ?_)
      · exact ⟨by unfold stayV; rw [h4]; rfl, Sat.grown⟩
      · (repeat (first | (refine Step.go ?_; intros) | refine iteB_t (by decide) ?_ | refine iteB_f (by decide) ?_ | (refine Duo.mk (by first | omega | exact rfl | decide) ?_; intros) | (refine Duo.mk (Clo.mk (by kernel_rfl)) ?_; intros)))
        refine ⟨?_, Sat.grown⟩
        unfold stayV
        rw [h4]
        have e9 : (v.rev.1 == t) = decide (v.rev.1 = t) := by rw [Bool.eq_iff_iff]; simp
        rw [e9]; simp
    · have h3 : ¬ lastI t l = some i := by intro h3; rw [h3] at h2; simp [wkI] at h2
      rw [e0, decide_eq_false h3]
      exact ⟨rfl, Sat.grown⟩
end
end Go.Proofs.Ytpjnmdeeoafclaa

set_option linter.unusedVariables false
set_option linter.unnecessarySimpa false
set_option linter.unusedSimpArgs false
namespace Go.Proofs.Ytpjnmdeeoafclaa
open Go Go.Den Go.Proofs
/-! What the reference gathers. -/
def acc (P : Nat → Vs → Bool) (l : List Vs) : Nat → List Vs
  | 0 => []
  | i + 1 => acc P l i ++ (match l[i]? with | some v => if P i v then [v] else [] | none => [])
theorem acc_succ {P : Nat → Vs → Bool} {l : List Vs} {i : Nat} {v : Vs} (h : l[i]? = some v) : acc P l (i + 1) = acc P l i ++ (if P i v then [v] else []) := by
  show _ ++ (match l[i]? with | some v => _ | none => _) = _
  rw [h]
theorem acc_len {P : Nat → Vs → Bool} {l : List Vs} : ∀ {i : Nat}, (acc P l i).length ≤ i := by
  intro i
  induction i with
  | zero => exact Nat.le_refl _
  | succ i ih =>
    unfold acc
    rw [List.length_append]
    split
    · split <;> simp <;> omega
    · simp; omega
section
variable {H0 : Heap} {p : Option Addr} {n c : Nat} {l : List Vs} {t : Int}
theorem comp_loop [R0 : RowsC H0 p vC 6 l] (hl : l.length = n) (hn : n < 1000000) : ∀ (d i : Nat) (Z : Int) (q : Option Addr) (k : Nat) (H : Heap), i + d = n → Z = (i : Int) → Sat H [sl vC 46 6 q (acc (stayI t l) l i).length k (acc (stayI t l) l i), old H0] →
    F12.L0 p n c t q (acc (stayI t l) l i).length k p n c (n : Int) Z H (fun e H1 => ∃ x : Option Addr × Nat, e = .returned (.slice x.1 (acc (stayI t l) l n).length x.2) ∧ Sat H1 ([sl vC 46 6 x.1 (acc (stayI t l) l n).length x.2 (acc (stayI t l) l n)] ++ [old H0])) := by
  intro d
  induction d with
  | zero =>
    intro i Z q k H hi hZ S
    subst hZ
    obtain rfl : i = n := by omega
    refine F12.L0_step ?_
    unfold F12.L0n
    refine iteB_f (by rw [decide_eq_false_iff_not]; omega) ?_
    exact ⟨(q, k), rfl, S⟩
  | succ d ih =>
    intro i Z q k H hi hZ S
    subst hZ
    obtain ⟨v, hv⟩ := get_of (l := l) (i := i) (by omega)
    have A1 : HasI l (i : Int) v := ⟨by simpa using hv⟩
    have w1 : IntKind.wrap .i64 ((i : Int) + 1) = ((i + 1 : Nat) : Int) := by rw [wr (by omega) (by omega)]; omega
    have hal := acc_len (P := stayI t l) (l := l) (i := i)
    have ea := acc_succ (P := stayI t l) hv
    refine F12.L0_step ?_
    unfold F12.L0n
    refine iteB_t (by rw [decide_eq_true_iff]; omega) ?_
    refine R0.idx hl ⟨by omega, by omega, ?_⟩
    rintro a rfl
    (repeat (first | (refine Step.go ?_; intros) | refine iteB_t (by decide) ?_ | refine iteB_f (by decide) ?_ | (refine Duo.mk (by first | omega | exact rfl | decide) ?_; intros) | (refine Duo.mk (Clo.mk (by kernel_rfl)) ?_; intros)))
    rename_i H1 S1
    have E1 : ExtH H0 H1 := Sat.grown
    refine gives_i S1 (sStays (t := t) (R0.out.ext E1) hl hn hv) ?_
    intro H2 E2 S2
    (repeat (first | (refine Step.go ?_; intros) | refine iteB_t (by decide) ?_ | refine iteB_f (by decide) ?_ | (refine Duo.mk (by first | omega | exact rfl | decide) ?_; intros) | (refine Duo.mk (Clo.mk (by kernel_rfl)) ?_; intros)))
    refine iteB_i (fun h => ?_) (fun h => ?_)
    · rw [h, if_pos rfl] at ea
      (repeat (first | (refine Step.go ?_; intros) | refine iteB_t (by decide) ?_ | refine iteB_f (by decide) ?_ | (refine Duo.mk (by first | omega | exact rfl | decide) ?_; intros) | (refine Duo.mk (Clo.mk (by kernel_rfl)) ?_; intros)))
      rename_i q' k' H3 S3
      refine F12.L1_step ?_
      unfold F12.L1n
      rw [w1]
      have := ih (i + 1) _ q' k' H3 (by omega) rfl (by rw [ea, List.length_append]; exact S3.to Fits.out)
      rw [ea, List.length_append] at this
      exact this
    · rw [h, if_neg (by decide), List.append_nil] at ea
      refine F12.L1_step ?_
      unfold F12.L1n
      rw [w1]
      have := ih (i + 1) _ q k H2 (by omega) rfl (by rw [ea]; exact S2.to (.drop .refl))
      rw [ea] at this
      exact this
theorem sComp {H : Heap} (hR : RowsAt vC 6 H p l) (hl : l.length = n) (hn : n < 1000000) : CallsH Try.prog 12 ⟨[.slice p n c, .int .i64 t]⟩ H (fun e H1 => ∃ x : Option Addr × Nat, e = .returned (.slice x.1 (acc (stayI t l) l n).length x.2) ∧ Sat H1 ([sl vC 46 6 x.1 (acc (stayI t l) l n).length x.2 (acc (stayI t l) l n)] ++ [old H])) := by
  have R0 : RowsC H p vC 6 l := ⟨hR⟩
  refine F12.calls ?_
  unfold F12.go
  exact comp_loop (t := t) hl hn n 0 0 none 0 H (by omega) rfl ((Sat.start H).to (.slNil .refl))
def keptP (t : Int) (l : List Vs) (b : Bool) (i : Nat) (v : Vs) : Bool := decide (v.rev.1 ≤ t) && (stayI t l i v && (b || !v.gone))
theorem kept_loop [R0 : RowsC H0 p vC 6 l] {b : Bool} (hl : l.length = n) (hn : n < 1000000) : ∀ (d i : Nat) (Z : Int) (q : Option Addr) (k : Nat) (H : Heap), i + d = n → Z = (i : Int) → Sat H [sl rvC 31 2 q (acc (keptP t l b) l i).length k ((acc (keptP t l b) l i).map (·.rev)), old H0] →
    F32.L0 p n c t b q (acc (keptP t l b) l i).length k p n c (n : Int) Z H (fun e H1 => ∃ x : Option Addr × Nat, e = .returned (.slice x.1 (acc (keptP t l b) l n).length x.2) ∧ Sat H1 ([sl rvC 31 2 x.1 (acc (keptP t l b) l n).length x.2 ((acc (keptP t l b) l n).map (·.rev))] ++ [old H0])) := by
  intro d
  induction d with
  | zero =>
    intro i Z q k H hi hZ S
    subst hZ
    obtain rfl : i = n := by omega
    refine F32.L0_step ?_
    unfold F32.L0n
    refine iteB_f (by rw [decide_eq_false_iff_not]; omega) ?_
    exact ⟨(q, k), rfl, S⟩
  | succ d ih =>
    intro i Z q k H hi hZ S
    subst hZ
    obtain ⟨v, hv⟩ := get_of (l := l) (i := i) (by omega)
    have A1 : HasI l (i : Int) v := ⟨by simpa using hv⟩
    have w1 : IntKind.wrap .i64 ((i : Int) + 1) = ((i + 1 : Nat) : Int) := by rw [wr (by omega) (by omega)]; omega
    have hal := acc_len (P := keptP t l b) (l := l) (i := i)
    have ea := acc_succ (P := keptP t l b) hv
    have no : keptP t l b i v = false → ∀ H', Sat H' [sl rvC 31 2 q (acc (keptP t l b) l i).length k ((acc (keptP t l b) l i).map (·.rev)), old H0] → F32.L2 p n c t b q (acc (keptP t l b) l i).length k p n c (n : Int) (i : Int) H' (fun e H1 => ∃ x : Option Addr × Nat, e = .returned (.slice x.1 (acc (keptP t l b) l n).length x.2) ∧ Sat H1 ([sl rvC 31 2 x.1 (acc (keptP t l b) l n).length x.2 ((acc (keptP t l b) l n).map (·.rev))] ++ [old H0])) := by
      intro h H' S'
      rw [h, if_neg (by decide), List.append_nil] at ea
      refine F32.L2_step ?_
      unfold F32.L2n
      rw [w1]
      have := ih (i + 1) _ q k H' (by omega) rfl (by rw [ea]; exact S')
      rw [ea] at this
      exact this
    have yes : keptP t l b i v = true → ∀ r H', Sat H' (pt r (.cells ⟨vC v⟩ 46) :: [sl rvC 31 2 q (acc (keptP t l b) l i).length k ((acc (keptP t l b) l i).map (·.rev)), old H0]) → F32.L1 p n c t b q (acc (keptP t l b) l i).length k r p n c (n : Int) (i : Int) H' (fun e H1 => ∃ x : Option Addr × Nat, e = .returned (.slice x.1 (acc (keptP t l b) l n).length x.2) ∧ Sat H1 ([sl rvC 31 2 x.1 (acc (keptP t l b) l n).length x.2 ((acc (keptP t l b) l n).map (·.rev))] ++ [old H0])) := by
      intro h r H' S'
      rw [h, if_pos rfl] at ea
      refine F32.L1_step ?_
      unfold F32.L1n
      (repeat (first | (refine Step.go ?_; intros) | refine iteB_t (by decide) ?_ | refine iteB_f (by decide) ?_ | (refine Duo.mk (by first | omega | exact rfl | decide) ?_; intros) | (refine Duo.mk (Clo.mk (by kernel_rfl)) ?_; intros)))
      rename_i q' k' H3 S3
      refine F32.L2_step ?_
      unfold F32.L2n
      rw [w1]
      have := ih (i + 1) _ q' k' H3 (by omega) rfl (by rw [ea, List.length_append, List.map_append]; exact S3.to (.drop (.drop .refl)))
      rw [ea, List.length_append] at this
      exact this
    refine F32.L0_step ?_
    unfold F32.L0n
    refine iteB_t (by rw [decide_eq_true_iff]; omega) ?_
    refine R0.idx hl ⟨by omega, by omega, ?_⟩
    rintro a rfl
    (repeat (first | (refine Step.go ?_; intros) | refine iteB_t (by decide) ?_ | refine iteB_f (by decide) ?_ | (refine Duo.mk (by first | omega | exact rfl | decide) ?_; intros) | (refine Duo.mk (Clo.mk (by kernel_rfl)) ?_; intros)))
    rename_i H1 S1
    have E1 : ExtH H0 H1 := Sat.grown
    refine iteB_i (fun h => ?_) (fun h => ?_)
    · have h := of_decide_eq_true h
      refine gives_i S1 (sStays (t := t) (R0.out.ext E1) hl hn hv) ?_
      intro H2 E2 S2
      (repeat (first | (refine Step.go ?_; intros) | refine iteB_t (by decide) ?_ | refine iteB_f (by decide) ?_ | (refine Duo.mk (by first | omega | exact rfl | decide) ?_; intros) | (refine Duo.mk (Clo.mk (by kernel_rfl)) ?_; intros)))
      refine iteB_i (fun h2 => ?_) (fun h2 => ?_)
      · refine iteB_i (fun h3 => ?_) (fun h3 => ?_)
        · exact yes (by unfold keptP; rw [decide_eq_true h, h2, h3]; rfl) _ H2 S2
        · (repeat (first | (refine Step.go ?_; intros) | refine iteB_t (by decide) ?_ | refine iteB_f (by decide) ?_ | (refine Duo.mk (by first | omega | exact rfl | decide) ?_; intros) | (refine Duo.mk (Clo.mk (by kernel_rfl)) ?_; intros)))
          refine iteB_i (fun h4 => ?_) (fun h4 => ?_)
          · exact yes (by unfold keptP; rw [decide_eq_true h, h2, h3, h4]; rfl) _ H2 S2
          · exact no (by unfold keptP; rw [decide_eq_true h, h2, h3, h4]; rfl) H2 (S2.to (.drop .refl))
      · exact no (by unfold keptP; rw [decide_eq_true h, h2]; rfl) H2 (S2.to (.drop .refl))
    · have h := of_decide_eq_false h
      exact no (by unfold keptP; rw [decide_eq_false h]; rfl) H1 (S1.to (.drop .refl))
theorem sKept {H : Heap} {b : Bool} (hR : RowsAt vC 6 H p l) (hl : l.length = n) (hn : n < 1000000) : CallsH Try.prog 32 ⟨[.slice p n c, .int .i64 t, .bool b]⟩ H (fun e H1 => ∃ x : Option Addr × Nat, e = .returned (.slice x.1 (acc (keptP t l b) l n).length x.2) ∧ Sat H1 ([sl rvC 31 2 x.1 (acc (keptP t l b) l n).length x.2 ((acc (keptP t l b) l n).map (·.rev))] ++ [old H])) := by
  have R0 : RowsC H p vC 6 l := ⟨hR⟩
  refine F32.calls ?_
  unfold F32.go
  exact kept_loop (t := t) (b := b) hl hn n 0 0 none 0 H (by omega) rfl ((Sat.start H).to (.slNil .refl))
end
end Go.Proofs.Ytpjnmdeeoafclaa

set_option linter.unusedVariables false
set_option linter.unnecessarySimpa false
set_option linter.unusedSimpArgs false
namespace Go.Proofs.Ytpjnmdeeoafclaa
open Go Go.Den Go.Proofs
def sinceP (t : Int) (l : List Vs) (i : Nat) (v : Vs) : Bool := decide (v.rev.1 ≥ t) && (match l[i + 1]? with | none => true | some w => decide (w.rev.1 ≠ v.rev.1))
section
variable {H0 : Heap} {p : Option Addr} {n c : Nat} {l : List Vs} {t : Int}
theorem sinceS_loop [R0 : RowsC H0 p vC 6 l] (hl : l.length = n) (hn : n < 1000000) : ∀ (d i : Nat) (Z : Int) (q : Option Addr) (k : Nat) (H : Heap), i + d = n → Z = (i : Int) → Sat H [sl rvC 31 2 q (acc (sinceP t l) l i).length k ((acc (sinceP t l) l i).map (·.rev)), old H0] →
    F31.L0 p n c t q (acc (sinceP t l) l i).length k p n c (n : Int) Z H (fun e H1 => ∃ x : Option Addr × Nat, e = .returned (.slice x.1 (acc (sinceP t l) l n).length x.2) ∧ Sat H1 ([sl rvC 31 2 x.1 (acc (sinceP t l) l n).length x.2 ((acc (sinceP t l) l n).map (·.rev))] ++ [old H0])) := by
  intro d
  induction d with
  | zero =>
    intro i Z q k H hi hZ S
    subst hZ
    obtain rfl : i = n := by omega
    refine F31.L0_step ?_
    unfold F31.L0n
    refine iteB_f (by rw [decide_eq_false_iff_not]; omega) ?_
    exact ⟨(q, k), rfl, S⟩
  | succ d ih =>
    intro i Z q k H hi hZ S
    subst hZ
    obtain ⟨v, hv⟩ := get_of (l := l) (i := i) (by omega)
    have A1 : HasI l (i : Int) v := ⟨by simpa using hv⟩
    have w1 : IntKind.wrap .i64 ((i : Int) + 1) = ((i + 1 : Nat) : Int) := by rw [wr (by omega) (by omega)]; omega
    have w2 : IntKind.wrap .i64 ((n : Int) - 1) = (n : Int) - 1 := wr (by omega) (by omega)
    have hal := acc_len (P := sinceP t l) (l := l) (i := i)
    have ea := acc_succ (P := sinceP t l) hv
    have no : sinceP t l i v = false → ∀ H', Sat H' [sl rvC 31 2 q (acc (sinceP t l) l i).length k ((acc (sinceP t l) l i).map (·.rev)), old H0] → F31.L2 p n c t q (acc (sinceP t l) l i).length k p n c (n : Int) (i : Int) H' (fun e H1 => ∃ x : Option Addr × Nat, e = .returned (.slice x.1 (acc (sinceP t l) l n).length x.2) ∧ Sat H1 ([sl rvC 31 2 x.1 (acc (sinceP t l) l n).length x.2 ((acc (sinceP t l) l n).map (·.rev))] ++ [old H0])) := by
      intro h H' S'
      rw [h, if_neg (by decide), List.append_nil] at ea
      refine F31.L2_step ?_
      unfold F31.L2n
      rw [w1]
      have := ih (i + 1) _ q k H' (by omega) rfl (by rw [ea]; exact S')
      rw [ea] at this
      exact this
    have yes : sinceP t l i v = true → ∀ r H', Sat H' (pt r (.cells ⟨vC v⟩ 46) :: [sl rvC 31 2 q (acc (sinceP t l) l i).length k ((acc (sinceP t l) l i).map (·.rev)), old H0]) → F31.L1 p n c t q (acc (sinceP t l) l i).length k r p n c (n : Int) (i : Int) H' (fun e H1 => ∃ x : Option Addr × Nat, e = .returned (.slice x.1 (acc (sinceP t l) l n).length x.2) ∧ Sat H1 ([sl rvC 31 2 x.1 (acc (sinceP t l) l n).length x.2 ((acc (sinceP t l) l n).map (·.rev))] ++ [old H0])) := by
      intro h r H' S'
      rw [h, if_pos rfl] at ea
      refine F31.L1_step ?_
      unfold F31.L1n
      (repeat (first | (refine Step.go ?_; intros) | refine iteB_t (by decide) ?_ | refine iteB_f (by decide) ?_ | (refine Duo.mk (by first | omega | exact rfl | decide) ?_; intros) | (refine Duo.mk (Clo.mk (by kernel_rfl)) ?_; intros)))
      rename_i q' k' H3 S3
      refine F31.L2_step ?_
      unfold F31.L2n
      rw [w1]
      have := ih (i + 1) _ q' k' H3 (by omega) rfl (by rw [ea, List.length_append, List.map_append]; exact S3.to (.drop (.drop .refl)))
      rw [ea, List.length_append] at this
      exact this
    refine F31.L0_step ?_
    unfold F31.L0n
    refine iteB_t (by rw [decide_eq_true_iff]; omega) ?_
    refine R0.idx hl ⟨by omega, by omega, ?_⟩
    rintro a rfl
    (repeat (first | (refine Step.go ?_; intros) | refine iteB_t (by decide) ?_ | refine iteB_f (by decide) ?_ | (refine Duo.mk (by first | omega | exact rfl | decide) ?_; intros) | (refine Duo.mk (Clo.mk (by kernel_rfl)) ?_; intros)))
    rename_i H1 S1
    refine iteB_i (fun h => ?_) (fun h => ?_)
    · have h := of_decide_eq_true h
      rw [w2, w1]
      refine iteB_i (fun h2 => ?_) (fun h2 => ?_)
      · have h2 := eq_of_beq h2
        have hnone : l[i + 1]? = none := List.getElem?_eq_none (by omega)
        exact yes (by unfold sinceP; rw [decide_eq_true h, hnone]; rfl) _ H1 S1
      · have h2 : ¬ (i : Int) = (n : Int) - 1 := by intro h3; rw [h3] at h2; simp at h2
        obtain ⟨w, hw⟩ := get_of (l := l) (i := i + 1) (by omega)
        have A2 : HasI l ((i + 1 : Nat) : Int) w := ⟨by simpa using hw⟩
        (repeat (first | (refine Step.go ?_; intros) | refine iteB_t (by decide) ?_ | refine iteB_f (by decide) ?_ | (refine Duo.mk (by first | omega | exact rfl | decide) ?_; intros) | (refine Duo.mk (Clo.mk (by kernel_rfl)) ?_; intros)))
        refine iteB_i (fun h3 => ?_) (fun h3 => ?_)
        · exact yes (by unfold sinceP; rw [decide_eq_true h, hw]; dsimp only; rw [decide_eq_true (by simpa using h3)]; rfl) _ H1 S1
        · exact no (by unfold sinceP; rw [decide_eq_true h, hw]; dsimp only; rw [decide_eq_false (by simpa using h3)]; rfl) H1 (S1.to (.drop .refl))
    · have h := of_decide_eq_false h
      exact no (by unfold sinceP; rw [decide_eq_false h]; rfl) H1 (S1.to (.drop .refl))
theorem sSince {H : Heap} (hR : RowsAt vC 6 H p l) (hl : l.length = n) (hn : n < 1000000) : CallsH Try.prog 31 ⟨[.slice p n c, .int .i64 t]⟩ H (fun e H1 => ∃ x : Option Addr × Nat, e = .returned (.slice x.1 (acc (sinceP t l) l n).length x.2) ∧ Sat H1 ([sl rvC 31 2 x.1 (acc (sinceP t l) l n).length x.2 ((acc (sinceP t l) l n).map (·.rev))] ++ [old H])) := by
  have R0 : RowsC H p vC 6 l := ⟨hR⟩
  refine F31.calls ?_
  unfold F31.go
  exact sinceS_loop (t := t) hl hn n 0 0 none 0 H (by omega) rfl ((Sat.start H).to (.slNil .refl))
end
/-! What is gathered, as the plain law has it. -/
theorem acc_snoc {P : Nat → Vs → Bool} {l : List Vs} {v : Vs} : ∀ {i : Nat}, i ≤ l.length → acc P (l ++ [v]) i = acc P l i := by
  intro i
  induction i with
  | zero => intro _; rfl
  | succ i ih =>
    intro hi
    unfold acc
    rw [ih (by omega), List.getElem?_append_left (by omega)]
theorem acc_congr {P Q : Nat → Vs → Bool} {l : List Vs} : ∀ {i : Nat}, (∀ k v, k < i → l[k]? = some v → P k v = Q k v) → acc P l i = acc Q l i := by
  intro i
  induction i with
  | zero => intro _; rfl
  | succ i ih =>
    intro h
    unfold acc
    rw [ih fun k v hk => h k v (by omega)]
    cases hv : l[i]? with
    | none => rfl
    | some v => dsimp only; rw [h i v (by omega) hv]
theorem acc_from {P : Nat → Vs → Bool} {l : List Vs} {j : Nat} (h0 : ∀ k v, k < j → l[k]? = some v → P k v = false) (h1 : ∀ k v, j < k → l[k]? = some v → P k v = true) {v : Vs} (hv : l[j]? = some v) : acc P l l.length = (if P j v then [v] else []) ++ l.drop (j + 1) := by
  have hj := (List.getElem?_eq_some_iff.1 hv).1
  have z : ∀ k, k ≤ j → acc P l k = [] := by
    intro k
    induction k with
    | zero => intro _; rfl
    | succ k ih =>
      intro hk
      obtain ⟨w, hw⟩ := get_of (l := l) (i := k) (by omega)
      rw [acc_succ hw, ih (by omega), h0 k w (by omega) hw]; rfl
  have f : ∀ d, j + 1 + d ≤ l.length → acc P l (j + 1 + d) = (if P j v then [v] else []) ++ (l.drop (j + 1)).take d := by
    intro d
    induction d with
    | zero => intro _; rw [Nat.add_zero, acc_succ hv, z j (Nat.le_refl _)]; simp
    | succ d ih =>
      intro hd
      obtain ⟨w, hw⟩ := get_of (l := l) (i := j + 1 + d) (by omega)
      rw [← Nat.add_assoc, acc_succ hw, ih (by omega), h1 _ w (by omega) hw, if_pos rfl, List.append_assoc]
      congr 1
      rw [List.take_add_one, List.getElem?_drop, hw]; rfl
  have := f (l.length - (j + 1)) (by omega)
  rw [show j + 1 + (l.length - (j + 1)) = l.length by omega] at this
  rw [this, List.take_of_length_le (by simp)]
theorem acc_all {P : Nat → Vs → Bool} {l : List Vs} (h : ∀ k v, l[k]? = some v → P k v = true) : acc P l l.length = l := by
  have f : ∀ d, d ≤ l.length → acc P l d = l.take d := by
    intro d
    induction d with
    | zero => intro _; rfl
    | succ d ih =>
      intro hd
      obtain ⟨w, hw⟩ := get_of (l := l) (i := d) (by omega)
      rw [acc_succ hw, ih (by omega), h d w hw, if_pos rfl, List.take_add_one, hw]; rfl
  rw [f _ (Nat.le_refl _), List.take_length]
def Mains (l : List Vs) : Prop := (l.map (·.rev)).Pairwise fun a b => a.1 ≤ b.1
theorem mains_le {l : List Vs} (h : Mains l) {i j : Nat} {v w : Vs} (hij : i < j) (hv : l[i]? = some v) (hw : l[j]? = some w) : v.rev.1 ≤ w.rev.1 := by
  have hi := List.getElem?_eq_some_iff.1 hv
  have hj := List.getElem?_eq_some_iff.1 hw
  have := List.pairwise_iff_getElem.1 h i j (by simpa using hi.1) (by simpa using hj.1) hij
  simp only [List.getElem_map] at this
  rw [hi.2, hj.2] at this
  exact this
theorem lastI_above {t : Int} {l : List Vs} {j k : Nat} {v : Vs} (h : lastI t l = some j) (hk : j < k) (hv : l[k]? = some v) : t < v.rev.1 := by
  have hkl := (List.getElem?_eq_some_iff.1 hv).1
  have e : l = l.take k ++ l.drop k := (List.take_append_drop k l).symm
  have h2 := lastI_app (t := t) (a := l.take k) (b := l.drop k)
  rw [← e, h] at h2
  cases hb : lastI t (l.drop k) with
  | none => exact lastI_none.1 hb v (List.mem_of_getElem? (by rw [List.getElem?_drop, Nat.add_zero]; exact hv))
  | some i =>
    rw [hb] at h2
    simp only [Option.some.injEq, List.length_take] at h2
    omega
theorem comp_acc {t : Int} {l : List Vs} (hm : Mains l) : acc (stayI t l) l l.length = compS t l := by
  unfold compS
  cases hi : lastI t l with
  | none =>
    refine acc_all fun k v hv => ?_
    have := lastI_none.1 hi v (List.mem_of_getElem? hv)
    unfold stayI; rw [decide_eq_true (by omega)]; rfl
  | some j =>
    obtain ⟨v, hv, hle⟩ := lastI_some hi
    rw [acc_from (fun k w hk hw => ?_) (fun k w hk hw => ?_) hv]
    · dsimp only
      rw [hv]
      have : stayI t l j v = stayV t v := by unfold stayI; rw [decide_eq_false (by omega), hi]; simp
      rw [this]
      simp only [Option.toList_some, List.filter_cons, List.filter_nil]
    · have := mains_le hm hk hw hv
      unfold stayI
      rw [decide_eq_false (by omega), hi, decide_eq_false (by simp; omega)]; rfl
    · have := lastI_above hi hk hw
      unfold stayI; rw [decide_eq_true (by omega)]; rfl
end Go.Proofs.Ytpjnmdeeoafclaa

set_option linter.unusedVariables false
set_option linter.unnecessarySimpa false
set_option linter.unusedSimpArgs false
namespace Go.Proofs.Ytpjnmdeeoafclaa
open Go Go.Den Go.Proofs
/-- A copy of records behind a slice that has no room. -/
theorem dup0_i {α : Type} {f : α → List Value} {z : Nat} {E : TypeId} {H : Heap} {l : List HP} {r : Nat} {q : Option Addr} {ys : List α} {d bytes : Nat} {zs : List Value} {K : Option Addr → Nat → Nat → Heap → Prop} (S : Sat H (pt r (.cells ⟨[]⟩ E) :: l)) (hR : RowsAt f z H q ys) (hd : ys.length = d) (hz : ∀ y, (f y).length = z) (hc : ∀ y, ∀ v ∈ f y, isCell v = true)
    (hzs : zs.length = z) (hb : bytes ≠ 0) (hs : (2 * d + 768) * bytes ≤ 2 ^ 48) (k : ∀ p' c' H1, ExtH H H1 → Sat H1 (sl f E z p' d c' ys :: l) → K p' d c' H1) : apD H z bytes zs E (some ⟨r, 0, none⟩) 0 0 q d K := by
  have h := dup_i (f := f) (E := E) (zs := zs) (bytes := bytes) (K := K) (S.to (.drop .refl)) hR hd hz hc hzs hb hs k
  obtain ⟨vs, h1, h2, _, h4⟩ := h
  refine ⟨vs, h1, h2, fun hle => ?_, fun hlt => ?_⟩
  · obtain rfl : d = 0 := by omega
    obtain rfl : vs = [] := List.eq_nil_of_length_eq_zero (by simpa using h1)
    obtain rfl : ys = [] := List.eq_nil_of_length_eq_zero hd
    refine k _ _ H (ExtH.refl H) (S.to ?_)
    exact Ent.slClose (f := f) (pre := []) (xs := []) (sp := []) rfl (by intro x hx; cases hx) (Nat.le_refl _) rfl (by simp)
  · obtain ⟨b1, b2, o, ho, _, hk⟩ := h4 hlt
    refine ⟨b1, b2, o, ho, ?_, hk⟩
    obtain rfl : o = [] := List.eq_nil_of_length_eq_zero (by simpa using ho)
    intro j v hj
    simp at hj
section
variable {H0 : Heap} {p : Option Addr} {n c : Nat} {l : List Vs} {t : Int}
theorem written_go [R0 : RowsC H0 p vC 6 l] (hl : l.length = n) (hn : n < 1000000) {vb : Nat} {x : Vs} {H : Heap} (S : Sat H [pt vb (.cells ⟨vC x⟩ 46), old H0]) :
    F28.L0 p n c vb H (fun e H1 => ∃ y : Option Addr × Nat, e = .returned (.slice y.1 (n + 1) y.2) ∧ Sat H1 ([sl vC 46 6 y.1 (n + 1) y.2 (l ++ [x])] ++ [old H0])) := by
  refine F28.L0_step ?_
  unfold F28.L0n
  refine ⟨?_, ?_, ?_⟩
  · (repeat (first | (refine Step.go ?_; intros) | refine iteB_t (by decide) ?_ | refine iteB_f (by decide) ?_ | (refine Duo.mk (by first | omega | exact rfl | decide) ?_; intros) | (refine Duo.mk (Clo.mk (by kernel_rfl)) ?_; intros)))
    rename_i r H1 S1
    have E1 : ExtH H0 H1 := Sat.grown
    refine dup0_i (f := vC) (ys := l) S1 (R0.out.ext E1) hl vC_len vC_cell rfl (by decide) (by omega) ?_
    intro p2 c2 H2 E2 S2
    (repeat (first | (refine Step.go ?_; intros) | refine iteB_t (by decide) ?_ | refine iteB_f (by decide) ?_ | (refine Duo.mk (by first | omega | exact rfl | decide) ?_; intros) | (refine Duo.mk (Clo.mk (by kernel_rfl)) ?_; intros)))
    rename_i q' k' H3 S3
    exact ⟨(q', k'), rfl, S3.to (m := [sl vC 46 6 q' (n + 1) k' (l ++ [(⟨(x.rev.1, x.rev.2), (x.cr.1, x.cr.2), x.ver, x.gone⟩ : Vs)]), old H0]) Fits.out⟩
  · (repeat (first | (refine Step.go ?_; intros) | refine iteB_t (by decide) ?_ | refine iteB_f (by decide) ?_ | (refine Duo.mk (by first | omega | exact rfl | decide) ?_; intros) | (refine Duo.mk (Clo.mk (by kernel_rfl)) ?_; intros)))
    rename_i r _ _ r2 H1 S1
    have E1 : ExtH H0 H1 := Sat.grown
    refine dup0_i (f := vC) (ys := l) (r := r) (l := [pt r2 (.cells ⟨vC x⟩ 46), pt vb (.cells ⟨vC x⟩ 46), old H0]) (S1.to Fits.out) (R0.out.ext E1) hl vC_len vC_cell rfl (by decide) (by omega) ?_
    intro p2 c2 H2 E2 S2
    (repeat (first | (refine Step.go ?_; intros) | refine iteB_t (by decide) ?_ | refine iteB_f (by decide) ?_ | (refine Duo.mk (by first | omega | exact rfl | decide) ?_; intros) | (refine Duo.mk (Clo.mk (by kernel_rfl)) ?_; intros)))
    rename_i q' k' H3 S3
    exact ⟨(q', k'), rfl, S3.to (m := [sl vC 46 6 q' (n + 1) k' (l ++ [(⟨(x.rev.1, x.rev.2), (x.cr.1, x.cr.2), x.ver, x.gone⟩ : Vs)]), old H0]) Fits.out⟩
  · (repeat (first | (refine Step.go ?_; intros) | refine iteB_t (by decide) ?_ | refine iteB_f (by decide) ?_ | (refine Duo.mk (by first | omega | exact rfl | decide) ?_; intros) | (refine Duo.mk (Clo.mk (by kernel_rfl)) ?_; intros)))
    rename_i r _ _ r2 H1 S1
    have E1 : ExtH H0 H1 := Sat.grown
    refine dup0_i (f := vC) (ys := l) S1 (R0.out.ext E1) hl vC_len vC_cell rfl (by decide) (by omega) ?_
    intro p2 c2 H2 E2 S2
    (repeat (first | (refine Step.go ?_; intros) | refine iteB_t (by decide) ?_ | refine iteB_f (by decide) ?_ | (refine Duo.mk (by first | omega | exact rfl | decide) ?_; intros) | (refine Duo.mk (Clo.mk (by kernel_rfl)) ?_; intros)))
    rename_i q' k' H3 S3
    exact ⟨(q', k'), rfl, S3.to (m := [sl vC 46 6 q' (n + 1) k' (l ++ [(⟨(x.rev.1, x.rev.2), (x.cr.1, x.cr.2), x.ver, x.gone⟩ : Vs)]), old H0]) Fits.out⟩
theorem sWritten {H : Heap} {rev : Rv} (hR : RowsAt vC 6 H p l) (hl : l.length = n) (hn : n < 1000000) (hv : ∀ v ∈ l, -1000000 ≤ v.ver ∧ v.ver < 1000000) : CallsH Try.prog 28 ⟨[.slice p n c, .agg ⟨[.int .i64 rev.1, .int .i64 rev.2]⟩]⟩ H
    (fun e H1 => ∃ y : Option Addr × Nat, e = .returned (.slice y.1 (n + 1) y.2) ∧ Sat H1 ([sl vC 46 6 y.1 (n + 1) y.2 (writtenS l rev)] ++ [old H])) := by
  have R0 : RowsC H p vC 6 l := ⟨hR⟩
  have S := Sat.start H
  refine F28.calls ?_
  unfold F28.go
  (repeat (first | (refine Step.go ?_; intros) | refine iteB_t (by decide) ?_ | refine iteB_f (by decide) ?_ | (refine Duo.mk (by first | omega | exact rfl | decide) ?_; intros) | (refine Duo.mk (Clo.mk (by kernel_rfl)) ?_; intros)))
  rename_i r _ _ vb _ _ _ _ _ _ _ _ _ _ _ _ H1 S1
  have E1 : ExtH H H1 := Sat.grown
  refine gives_i S1 (sLives (hR.ext E1) hl hn) ?_
  intro H2 E2 S2
  (repeat (first | (refine Step.go ?_; intros) | refine iteB_t (by decide) ?_ | refine iteB_f (by decide) ?_ | (refine Duo.mk (by first | omega | exact rfl | decide) ?_; intros) | (refine Duo.mk (Clo.mk (by kernel_rfl)) ?_; intros)))
  refine iteB_i (fun h => ?_) (fun h => ?_)
  · have h0 : l ≠ [] := by intro h0; subst h0; cases h
    have w1 : IntKind.wrap .i64 ((n : Int) - 1) = (n : Int) - 1 := wr (by omega) (by omega)
    have A1 := hasLast' (d := (⟨z0, z0, 0, false⟩ : Vs)) hl h0 hn
    have hpos : 0 < l.length := List.length_pos_iff.2 h0
    have hg : l.getLast? = some (l.getLastD ⟨z0, z0, 0, false⟩) := by rw [List.getLastD_eq_getLast?, List.getLast?_eq_some_getLast h0]; rfl
    have hmem := hv _ (List.mem_of_getLast? hg)
    have ew : writtenS l rev = l ++ [⟨rev, (l.getLastD ⟨z0, z0, 0, false⟩).cr, (l.getLastD ⟨z0, z0, 0, false⟩).ver + 1, false⟩] := by
      unfold writtenS; rw [h, hg]; rfl
    have w2 : IntKind.wrap .i64 ((l.getLastD ⟨z0, z0, 0, false⟩).ver + 1) = (l.getLastD ⟨z0, z0, 0, false⟩).ver + 1 := wr (by omega) (by omega)
    rw [ew]
    refine ⟨?_, ?_⟩
    · refine R0.idx hl ⟨by omega, by omega, ?_⟩
      rintro a rfl
      (repeat (first | (refine Step.go ?_; intros) | refine iteB_t (by decide) ?_ | refine iteB_f (by decide) ?_ | (refine Duo.mk (by first | omega | exact rfl | decide) ?_; intros) | (refine Duo.mk (Clo.mk (by kernel_rfl)) ?_; intros)))
      rename_i H3 S3
      rw [w2] at S3
      exact written_go hl hn (S3.to Fits.out)
    · refine R0.idx hl ⟨by omega, by omega, ?_⟩
      rintro a rfl
      (repeat (first | (refine Step.go ?_; intros) | refine iteB_t (by decide) ?_ | refine iteB_f (by decide) ?_ | (refine Duo.mk (by first | omega | exact rfl | decide) ?_; intros) | (refine Duo.mk (Clo.mk (by kernel_rfl)) ?_; intros)))
      rename_i H3 S3
      rw [w2] at S3
      exact written_go hl hn (S3.to Fits.out)
  · have ew : writtenS l rev = l ++ [⟨rev, rev, 1, false⟩] := by unfold writtenS; rw [h]; rfl
    rw [ew]
    exact written_go hl hn (S2.to Fits.out)
theorem sEnded {H : Heap} {rev : Rv} (hR : RowsAt vC 6 H p l) (hl : l.length = n) (hn : n < 1000000) (h0 : l ≠ []) (hv : ∀ v ∈ l, -1000000 ≤ v.ver ∧ v.ver < 1000000) : CallsH Try.prog 29 ⟨[.slice p n c, .agg ⟨[.int .i64 rev.1, .int .i64 rev.2]⟩]⟩ H
    (fun e H1 => ∃ y : Option Addr × Nat, e = .returned (.slice y.1 (n + 1) y.2) ∧ Sat H1 ([sl vC 46 6 y.1 (n + 1) y.2 (endedS l rev)] ++ [old H])) := by
  have R0 : RowsC H p vC 6 l := ⟨hR⟩
  have S := Sat.start H
  have w1 : IntKind.wrap .i64 ((n : Int) - 1) = (n : Int) - 1 := wr (by omega) (by omega)
  have A1 := hasLast' (d := (⟨z0, z0, 0, false⟩ : Vs)) hl h0 hn
  have hpos : 0 < l.length := List.length_pos_iff.2 h0
  have hg : l.getLast? = some (l.getLastD ⟨z0, z0, 0, false⟩) := by rw [List.getLastD_eq_getLast?, List.getLast?_eq_some_getLast h0]; rfl
  have hmem := hv _ (List.mem_of_getLast? hg)
  have ew : endedS l rev = l ++ [⟨rev, (l.getLastD ⟨z0, z0, 0, false⟩).cr, (l.getLastD ⟨z0, z0, 0, false⟩).ver + 1, true⟩] := by
    unfold endedS; rw [hg]
  have w2 : IntKind.wrap .i64 ((l.getLastD ⟨z0, z0, 0, false⟩).ver + 1) = (l.getLastD ⟨z0, z0, 0, false⟩).ver + 1 := wr (by omega) (by omega)
  rw [ew]
  generalize l.getLastD ⟨z0, z0, 0, false⟩ = x at *
  refine F29.calls ?_
  unfold F29.go
  (repeat (first | (refine Step.go ?_; intros) | refine iteB_t (by decide) ?_ | refine iteB_f (by decide) ?_ | (refine Duo.mk (by first | omega | exact rfl | decide) ?_; intros) | (refine Duo.mk (Clo.mk (by kernel_rfl)) ?_; intros)))
  refine R0.idx hl ⟨by omega, by omega, ?_⟩
  rintro a rfl
  (repeat (first | (refine Step.go ?_; intros) | refine iteB_t (by decide) ?_ | refine iteB_f (by decide) ?_ | (refine Duo.mk (by first | omega | exact rfl | decide) ?_; intros) | (refine Duo.mk (Clo.mk (by kernel_rfl)) ?_; intros)))
  refine ⟨?_, ?_, ?_⟩
  · (repeat (first | (refine Step.go ?_; intros) | refine iteB_t (by decide) ?_ | refine iteB_f (by decide) ?_ | (refine Duo.mk (by first | omega | exact rfl | decide) ?_; intros) | (refine Duo.mk (Clo.mk (by kernel_rfl)) ?_; intros)))
    rename_i r H1 S1
    have E1 : ExtH H H1 := Sat.grown
    refine dup0_i (f := vC) (ys := l) S1 (R0.out.ext E1) hl vC_len vC_cell rfl (by decide) (by omega) ?_
    intro p2 c2 H2 E2 S2
    (repeat (first | (refine Step.go ?_; intros) | refine iteB_t (by decide) ?_ | refine iteB_f (by decide) ?_ | (refine Duo.mk (by first | omega | exact rfl | decide) ?_; intros) | (refine Duo.mk (Clo.mk (by kernel_rfl)) ?_; intros)))
    rename_i q' k' H3 S3
    rw [w2] at S3
    exact ⟨(q', k'), rfl, S3.to (m := [sl vC 46 6 q' (n + 1) k' (l ++ [(⟨(rev.1, rev.2), (x.cr.1, x.cr.2), x.ver + 1, true⟩ : Vs)]), old H]) Fits.out⟩
  · (repeat (first | (refine Step.go ?_; intros) | refine iteB_t (by decide) ?_ | refine iteB_f (by decide) ?_ | (refine Duo.mk (by first | omega | exact rfl | decide) ?_; intros) | (refine Duo.mk (Clo.mk (by kernel_rfl)) ?_; intros)))
    rename_i r _ _ r2 H1 S1
    have E1 : ExtH H H1 := Sat.grown
    have S2 := S1.bring (c := pt r (.cells ⟨[]⟩ 46)) (.there .here)
    refine dup0_i (f := vC) (ys := l) S2 (R0.out.ext E1) hl vC_len vC_cell rfl (by decide) (by omega) ?_
    intro p2 c2 H2 E2 S2
    (repeat (first | (refine Step.go ?_; intros) | refine iteB_t (by decide) ?_ | refine iteB_f (by decide) ?_ | (refine Duo.mk (by first | omega | exact rfl | decide) ?_; intros) | (refine Duo.mk (Clo.mk (by kernel_rfl)) ?_; intros)))
    rename_i q' k' H3 S3
    rw [w2] at S3
    exact ⟨(q', k'), rfl, S3.to (m := [sl vC 46 6 q' (n + 1) k' (l ++ [(⟨(rev.1, rev.2), (x.cr.1, x.cr.2), x.ver + 1, true⟩ : Vs)]), old H]) Fits.out⟩
  · (repeat (first | (refine Step.go ?_; intros) | refine iteB_t (by decide) ?_ | refine iteB_f (by decide) ?_ | (refine Duo.mk (by first | omega | exact rfl | decide) ?_; intros) | (refine Duo.mk (Clo.mk (by kernel_rfl)) ?_; intros)))
    rename_i r _ _ r2 H1 S1
    have E1 : ExtH H H1 := Sat.grown
    refine dup0_i (f := vC) (ys := l) S1 (R0.out.ext E1) hl vC_len vC_cell rfl (by decide) (by omega) ?_
    intro p2 c2 H2 E2 S2
    (repeat (first | (refine Step.go ?_; intros) | refine iteB_t (by decide) ?_ | refine iteB_f (by decide) ?_ | (refine Duo.mk (by first | omega | exact rfl | decide) ?_; intros) | (refine Duo.mk (Clo.mk (by kernel_rfl)) ?_; intros)))
    rename_i q' k' H3 S3
    rw [w2] at S3
    exact ⟨(q', k'), rfl, S3.to (m := [sl vC 46 6 q' (n + 1) k' (l ++ [(⟨(rev.1, rev.2), (x.cr.1, x.cr.2), x.ver + 1, true⟩ : Vs)]), old H]) Fits.out⟩
def zV0 : Vs := ⟨z0, z0, 0, false⟩
/-- What the reference says of a number. -/
def holdsR (t : Int) (l : List Vs) : Vs × Bool := match holdsS t l with | none => (zV0, false) | some v => (v, true)
theorem sHolds {H : Heap} (hR : RowsAt vC 6 H p l) (hl : l.length = n) (hn : n < 1000000) : CallsH Try.prog 30 ⟨[.slice p n c, .int .i64 t]⟩ H (Gives (.tuple ⟨[.agg ⟨vC (holdsR t l).1⟩, .bool (holdsR t l).2]⟩) H) := by
  have R0 : RowsC H p vC 6 l := ⟨hR⟩
  have S := Sat.start H
  refine F30.calls ?_
  unfold F30.go
  (repeat (first | (refine Step.go ?_; intros) | refine iteB_t (by decide) ?_ | refine iteB_f (by decide) ?_ | (refine Duo.mk (by first | omega | exact rfl | decide) ?_; intros) | (refine Duo.mk (Clo.mk (by kernel_rfl)) ?_; intros)))
  rename_i r H1 S1
  have E1 : ExtH H H1 := Sat.grown
  refine gives_i S1 (sLast (t := t) (hR.ext E1) hl hn) ?_
  intro H2 E2 S2
  (repeat (first | (refine Step.go ?_; intros) | refine iteB_t (by decide) ?_ | refine iteB_f (by decide) ?_ | (refine Duo.mk (by first | omega | exact rfl | decide) ?_; intros) | (refine Duo.mk (Clo.mk (by kernel_rfl)) ?_; intros)))
  cases hi : lastI t l with
  | none =>
    have eh : holdsR t l = (zV0, false) := by unfold holdsR holdsS lastV; rw [hi]; rfl
    rw [eh]
    dsimp only [wkI]
    (repeat (first | (refine Step.go ?_; intros) | refine iteB_t (by decide) ?_ | refine iteB_f (by decide) ?_ | (refine Duo.mk (by first | omega | exact rfl | decide) ?_; intros) | (refine Duo.mk (Clo.mk (by kernel_rfl)) ?_; intros)))
    exact ⟨rfl, Sat.grown⟩
  | some j =>
    obtain ⟨v, hv, hle⟩ := lastI_some hi
    have hj := (List.getElem?_eq_some_iff.1 hv).1
    have A1 : HasI l (j : Int) v := ⟨by simpa using hv⟩
    dsimp only [wkI]
    refine iteB_f (decide_eq_false (by omega)) ?_
    refine R0.idx hl ⟨by omega, by omega, ?_⟩
    rintro a rfl
    (repeat (first | (refine Step.go ?_; intros) | refine iteB_t (by decide) ?_ | refine iteB_f (by decide) ?_ | (refine Duo.mk (by first | omega | exact rfl | decide) ?_; intros) | (refine Duo.mk (Clo.mk (by kernel_rfl)) ?_; intros)))
    refine iteB_i (fun h => ?_) (fun h => ?_)
    · have eh : holdsR t l = (zV0, false) := by
        unfold holdsR holdsS lastV; rw [hi]; dsimp only [Option.bind_some]; rw [hv]; dsimp only; rw [h]; rfl
      rw [eh]
      (repeat (first | (refine Step.go ?_; intros) | refine iteB_t (by decide) ?_ | refine iteB_f (by decide) ?_ | (refine Duo.mk (by first | omega | exact rfl | decide) ?_; intros) | (refine Duo.mk (Clo.mk (by kernel_rfl)) ?_; intros)))
      exact ⟨rfl, Sat.grown⟩
    · have eh : holdsR t l = (v, true) := by
        unfold holdsR holdsS lastV; rw [hi]; dsimp only [Option.bind_some]; rw [hv]; dsimp only; rw [h]; rfl
      rw [eh]
      refine F30.L0_step ?_
      unfold F30.L0n
      (repeat (first | (refine Step.go ?_; intros) | refine iteB_t (by decide) ?_ | refine iteB_f (by decide) ?_ | (refine Duo.mk (by first | omega | exact rfl | decide) ?_; intros) | (refine Duo.mk (Clo.mk (by kernel_rfl)) ?_; intros)))
      exact ⟨rfl, Sat.grown⟩
end
end Go.Proofs.Ytpjnmdeeoafclaa

set_option linter.unusedVariables false
set_option linter.unnecessarySimpa false
set_option linter.unusedSimpArgs false
namespace Go.Proofs.Ytpjnmdeeoafclaa
open Go Go.Den Go.Proofs
theorem acc_none {P : Nat → Vs → Bool} {l : List Vs} (h : ∀ k v, l[k]? = some v → P k v = false) : ∀ {i : Nat}, i ≤ l.length → acc P l i = [] := by
  intro i
  induction i with
  | zero => intro _; rfl
  | succ i ih =>
    intro hi
    obtain ⟨w, hw⟩ := get_of (l := l) (i := i) (by omega)
    rw [acc_succ hw, ih (by omega), h i w hw]; rfl
theorem acc_one {P : Nat → Vs → Bool} {l : List Vs} {j : Nat} {v : Vs} (hv : l[j]? = some v) (h : ∀ k w, k ≠ j → l[k]? = some w → P k w = false) : acc P l l.length = if P j v then [v] else [] := by
  have hj := (List.getElem?_eq_some_iff.1 hv).1
  have z : ∀ k, k ≤ j → acc P l k = [] := by
    intro k
    induction k with
    | zero => intro _; rfl
    | succ k ih =>
      intro hk
      obtain ⟨w, hw⟩ := get_of (l := l) (i := k) (by omega)
      rw [acc_succ hw, ih (by omega), h k w (by omega) hw]; rfl
  have f : ∀ d, j + 1 + d ≤ l.length → acc P l (j + 1 + d) = if P j v then [v] else [] := by
    intro d
    induction d with
    | zero => intro _; rw [Nat.add_zero, acc_succ hv, z j (Nat.le_refl _)]; rfl
    | succ d ih =>
      intro hd
      obtain ⟨w, hw⟩ := get_of (l := l) (i := j + 1 + d) (by omega)
      rw [← Nat.add_assoc, acc_succ hw, ih (by omega), h _ w (by omega) hw]; simp
  have := f (l.length - (j + 1)) (by omega)
  rwa [show j + 1 + (l.length - (j + 1)) = l.length by omega] at this
theorem kept_acc {t : Int} {b : Bool} {l : List Vs} (hm : Mains l) : (acc (keptP t l b) l l.length).map (·.rev) = keptS t b l := by
  unfold keptS
  cases hi : lastI t l with
  | none =>
    rw [acc_none (fun k v hv => ?_) (Nat.le_refl _)]
    · rfl
    · have := lastI_none.1 hi v (List.mem_of_getElem? hv)
      unfold keptP; rw [decide_eq_false (by omega)]; rfl
  | some j =>
    obtain ⟨v, hv, hle⟩ := lastI_some hi
    rw [acc_one hv fun k w hk hw => ?_]
    · dsimp only
      rw [hv]
      have e1 : stayI t l j v = stayV t v := by unfold stayI; rw [decide_eq_false (by omega), hi]; simp
      have e2 : keptP t l b j v = (stayV t v && (b || !v.gone)) := by unfold keptP; rw [decide_eq_true hle, e1]; rfl
      rw [e2]
      simp only [Option.toList_some, List.filter_cons, List.filter_nil]
    · unfold keptP
      by_cases hkj : k < j
      · have := mains_le hm hkj hw hv
        unfold stayI
        rw [decide_eq_false (p := w.rev.1 > t) (by omega), hi, decide_eq_false (p := some j = some k) (by simp; omega)]
        simp
      · have := lastI_above hi (by omega : j < k) hw
        rw [decide_eq_false (by omega)]; rfl
theorem sinceP_cons {t : Int} {a : Vs} {l : List Vs} {i : Nat} {v : Vs} : sinceP t (a :: l) (i + 1) v = sinceP t l i v := rfl
theorem acc_cons {P : Nat → Vs → Bool} {a : Vs} {l : List Vs} : ∀ {i : Nat}, acc P (a :: l) (i + 1) = (if P 0 a then [a] else []) ++ acc (fun k v => P (k + 1) v) l i := by
  intro i
  induction i with
  | zero => rw [acc_succ (show (a :: l)[0]? = some a from rfl)]; simp [acc]
  | succ i ih =>
    show acc P (a :: l) (i + 1) ++ (match (a :: l)[i + 1]? with | some v => _ | none => []) = _ ++ (acc (fun k v => P (k + 1) v) l i ++ (match l[i]? with | some v => _ | none => []))
    rw [ih, List.append_assoc]
    rfl
theorem since_acc {t : Int} : ∀ {l : List Vs}, (acc (sinceP t l) l l.length).map (·.rev) = sinceS t (l.map (·.rev)) := by
  intro l
  induction l with
  | nil => rfl
  | cons a l ih =>
    rw [List.length_cons, acc_cons, List.map_append]
    have e : acc (fun k v => sinceP t (a :: l) (k + 1) v) l l.length = acc (sinceP t l) l l.length := rfl
    rw [e, ih]
    cases l with
    | nil =>
      show _ = if a.rev.1 ≥ t then [a.rev] else []
      by_cases h : a.rev.1 ≥ t
      · have : sinceP t [a] 0 a = true := by unfold sinceP; rw [decide_eq_true h]; rfl
        rw [this, if_pos h]; rfl
      · have : sinceP t [a] 0 a = false := by unfold sinceP; rw [decide_eq_false h]; rfl
        rw [this, if_neg h]; rfl
    | cons b l =>
      show _ = if a.rev.1 ≥ t ∧ b.rev.1 ≠ a.rev.1 then a.rev :: sinceS t ((b :: l).map (·.rev)) else sinceS t ((b :: l).map (·.rev))
      have e2 : sinceP t (a :: b :: l) 0 a = (decide (a.rev.1 ≥ t) && decide (b.rev.1 ≠ a.rev.1)) := rfl
      rw [e2]
      by_cases h : a.rev.1 ≥ t ∧ b.rev.1 ≠ a.rev.1
      · rw [if_pos h, decide_eq_true h.1, decide_eq_true h.2]; rfl
      · rw [if_neg h]
        have : (decide (a.rev.1 ≥ t) && decide (b.rev.1 ≠ a.rev.1)) = false := by
          rw [← Bool.decide_and, decide_eq_false h]
        rw [this]; rfl
section
variable {p : Option Addr} {n c : Nat} {l : List Vs} {L : List HP}
/-- An answer without its lives. -/
abbrev anC (a : An) (rp : Option Addr) (rc : Nat) : List Value := [.bool a.ok, .int .i64 a.mod.1, .int .i64 a.mod.2, .int .i64 a.cr.1, .int .i64 a.cr.2, .int .i64 a.ver, .slice rp a.revs.length rc, .int .i64 0, .int .i64 0, .slice none 0 0]
def doPost (l : List Vs) (o : KO) (L : List HP) (e : Ending) (H1 : Heap) : Prop := match kyDo l o with
  | none => ∃ x y, e = .returned (.tuple ⟨[.slice x l.length y, .agg ⟨ka0⟩, .bool false]⟩) ∧ Sat H1 L
  | some (m, a) => ∃ p' c' rp rc, e = .returned (.tuple ⟨[.slice p' m.length c', .agg ⟨anC a rp rc⟩, .bool true]⟩) ∧ Sat H1 (sl vC 46 6 p' m.length c' m :: sl rvC 31 2 rp a.revs.length rc a.revs :: L)
theorem keyDo_ok {o : KO} {H : Heap} (hl : l.length = n) (hn : n < 1000000) (hm : Mains l) (hv : ∀ v ∈ l, -1000000 ≤ v.ver ∧ v.ver < 1000000) (S : Sat H (sl vC 46 6 p n c l :: L)) : CallsH Try.prog 17 ⟨[.slice p n c, .agg ⟨o.cells⟩]⟩ H (doPost l o L) := by
  subst hl
  refine F17.calls ?_
  unfold F17.go
  (repeat (first | (refine Step.go ?_; intros) | refine iteB_t (by decide) ?_ | refine iteB_f (by decide) ?_ | (refine Duo.mk (by first | omega | exact rfl | decide) ?_; intros) | (refine Duo.mk (Clo.mk (by kernel_rfl)) ?_; intros)))
  rename_i r _ _ r1 _ _ r2 H1 S1
  have R1 : RowsAt vC 6 H1 p l := S1.rowsAt (List.mem_cons_of_mem _ (List.mem_cons_of_mem _ (List.mem_cons_of_mem _ (List.mem_cons_self ..))))
  refine iteB_i (fun h1 => ?_) (fun h1 => ?_)
  · have h1 := eq_of_beq h1
    (repeat (first | (refine Step.go ?_; intros) | refine iteB_t (by decide) ?_ | refine iteB_f (by decide) ?_ | (refine Duo.mk (by first | omega | exact rfl | decide) ?_; intros) | (refine Duo.mk (Clo.mk (by kernel_rfl)) ?_; intros)))
    refine gives_i S1 (sMod R1 rfl hn) ?_
    intro H2 E2 S2
    (repeat (first | (refine Step.go ?_; intros) | refine iteB_t (by decide) ?_ | refine iteB_f (by decide) ?_ | (refine Duo.mk (by first | omega | exact rfl | decide) ?_; intros) | (refine Duo.mk (Clo.mk (by kernel_rfl)) ?_; intros)))
    refine gives_i S2 (sLess (a := modS l) (b := o.rev)) ?_
    intro H3 E3 S3
    (repeat (first | (refine Step.go ?_; intros) | refine iteB_t (by decide) ?_ | refine iteB_f (by decide) ?_ | (refine Duo.mk (by first | omega | exact rfl | decide) ?_; intros) | (refine Duo.mk (Clo.mk (by kernel_rfl)) ?_; intros)))
    refine iteB_i (fun h2 => ?_) (fun h2 => ?_)
    · have ek : kyDo l o = none := by unfold kyDo; rw [if_pos h1, if_neg (by simpa using h2)]
      (repeat (first | (refine Step.go ?_; intros) | refine iteB_t (by decide) ?_ | refine iteB_f (by decide) ?_ | (refine Duo.mk (by first | omega | exact rfl | decide) ?_; intros) | (refine Duo.mk (Clo.mk (by kernel_rfl)) ?_; intros)))
      unfold doPost
      rw [ek]
      exact ⟨p, c, rfl, Sat.fin⟩
    · have ek : kyDo l o = some (writtenS l o.rev, ⟨true, z0, z0, 0, [], z0, []⟩) := by unfold kyDo; rw [if_pos h1, if_pos (by simpa using h2)]
      (repeat (first | (refine Step.go ?_; intros) | refine iteB_t (by decide) ?_ | refine iteB_f (by decide) ?_ | (refine Duo.mk (by first | omega | exact rfl | decide) ?_; intros) | (refine Duo.mk (Clo.mk (by kernel_rfl)) ?_; intros)))
      refine grow_i S3 (sWritten (rev := o.rev) ((R1.ext E2).ext E3) rfl hn hv) ?_
      rintro ⟨q, k⟩ H4 E4 S4
      simp only [List.cons_append, List.nil_append] at S4 ⊢
      (repeat (first | (refine Step.go ?_; intros) | refine iteB_t (by decide) ?_ | refine iteB_f (by decide) ?_ | (refine Duo.mk (by first | omega | exact rfl | decide) ?_; intros) | (refine Duo.mk (Clo.mk (by kernel_rfl)) ?_; intros)))
      rename_i H5 S5
      unfold doPost
      rw [ek]
      have hwl : (writtenS l o.rev).length = l.length + 1 := by unfold writtenS; simp
      refine ⟨q, k, none, 0, by rw [hwl]; rfl, ?_⟩
      rw [hwl]
      have S6 : Sat H5 (sl vC 46 6 q (l.length + 1) k (writtenS l o.rev) :: L) := S5.to Fits.out
      exact S6.to (.cons (.slNil .refl))
  have n1 : ¬ o.k = 1 := by simpa using h1
  have same : ∀ (a : An) (H5 : Heap), a.revs = [] → kyDo l o = some (l, a) → Sat H5 (sl vC 46 6 p l.length c l :: L) → doPost l o L (.returned (.tuple ⟨[.slice p l.length c, .agg ⟨[.bool a.ok, .int .i64 a.mod.1, .int .i64 a.mod.2, .int .i64 a.cr.1, .int .i64 a.cr.2, .int .i64 a.ver, .slice none 0 0, .int .i64 0, .int .i64 0, .slice none 0 0]⟩, .bool true]⟩)) H5 := by
    intro a H5 ha ek S5
    unfold doPost
    rw [ek]
    refine ⟨p, c, none, 0, by unfold anC; rw [ha]; rfl, ?_⟩
    rw [ha]
    exact S5.to (.cons (.slNil .refl))
  refine iteB_i (fun h2 => ?_) (fun h2 => ?_)
  · have h2 := eq_of_beq h2
    (repeat (first | (refine Step.go ?_; intros) | refine iteB_t (by decide) ?_ | refine iteB_f (by decide) ?_ | (refine Duo.mk (by first | omega | exact rfl | decide) ?_; intros) | (refine Duo.mk (Clo.mk (by kernel_rfl)) ?_; intros)))
    refine gives_i S1 (sLives R1 rfl hn) ?_
    intro H2 E2 S2
    (repeat (first | (refine Step.go ?_; intros) | refine iteB_t (by decide) ?_ | refine iteB_f (by decide) ?_ | (refine Duo.mk (by first | omega | exact rfl | decide) ?_; intros) | (refine Duo.mk (Clo.mk (by kernel_rfl)) ?_; intros)))
    rename_i H2a S2a
    have R2 : RowsAt vC 6 H2a p l := S2a.rowsAt (List.mem_cons_of_mem _ (List.mem_cons_of_mem _ (List.mem_cons_of_mem _ (List.mem_cons_self ..))))
    refine iteB_i (fun h3 => ?_) (fun h3 => ?_)
    · (repeat (first | (refine Step.go ?_; intros) | refine iteB_t (by decide) ?_ | refine iteB_f (by decide) ?_ | (refine Duo.mk (by first | omega | exact rfl | decide) ?_; intros) | (refine Duo.mk (Clo.mk (by kernel_rfl)) ?_; intros)))
      refine gives_i S2a (sMod R2 rfl hn) ?_
      intro H3 E3 S3
      (repeat (first | (refine Step.go ?_; intros) | refine iteB_t (by decide) ?_ | refine iteB_f (by decide) ?_ | (refine Duo.mk (by first | omega | exact rfl | decide) ?_; intros) | (refine Duo.mk (Clo.mk (by kernel_rfl)) ?_; intros)))
      refine gives_i S3 (sLess (a := modS l) (b := o.rev)) ?_
      intro H4 E4 S4
      (repeat (first | (refine Step.go ?_; intros) | refine iteB_t (by decide) ?_ | refine iteB_f (by decide) ?_ | (refine Duo.mk (by first | omega | exact rfl | decide) ?_; intros) | (refine Duo.mk (Clo.mk (by kernel_rfl)) ?_; intros)))
      refine iteB_i (fun h4 => ?_) (fun h4 => ?_)
      · have ek : kyDo l o = none := by unfold kyDo; rw [if_neg n1, if_pos h2, if_pos h3, if_neg (by simpa using h4)]
        (repeat (first | (refine Step.go ?_; intros) | refine iteB_t (by decide) ?_ | refine iteB_f (by decide) ?_ | (refine Duo.mk (by first | omega | exact rfl | decide) ?_; intros) | (refine Duo.mk (Clo.mk (by kernel_rfl)) ?_; intros)))
        unfold doPost
        rw [ek]
        exact ⟨p, c, rfl, Sat.fin⟩
      · have ek : kyDo l o = some (endedS l o.rev, ⟨true, z0, z0, 0, [], z0, []⟩) := by unfold kyDo; rw [if_neg n1, if_pos h2, if_pos h3, if_pos (by simpa using h4)]
        have h0 : l ≠ [] := by intro h0; subst h0; cases h3
        (repeat (first | (refine Step.go ?_; intros) | refine iteB_t (by decide) ?_ | refine iteB_f (by decide) ?_ | (refine Duo.mk (by first | omega | exact rfl | decide) ?_; intros) | (refine Duo.mk (Clo.mk (by kernel_rfl)) ?_; intros)))
        refine grow_i S4 (sEnded (rev := o.rev) ((R2.ext E3).ext E4) rfl hn h0 hv) ?_
        rintro ⟨q, k⟩ H5 E5 S5
        simp only [List.cons_append, List.nil_append] at S5 ⊢
        (repeat (first | (refine Step.go ?_; intros) | refine iteB_t (by decide) ?_ | refine iteB_f (by decide) ?_ | (refine Duo.mk (by first | omega | exact rfl | decide) ?_; intros) | (refine Duo.mk (Clo.mk (by kernel_rfl)) ?_; intros)))
        rename_i H6 S6
        unfold doPost
        rw [ek]
        have hwl : (endedS l o.rev).length = l.length + 1 := by unfold endedS; simp
        refine ⟨q, k, none, 0, by rw [hwl, h3]; rfl, ?_⟩
        rw [hwl]
        have S7 : Sat H6 (sl vC 46 6 q (l.length + 1) k (endedS l o.rev) :: L) := S6.to Fits.out
        exact S7.to (.cons (.slNil .refl))
    · have ek : kyDo l o = some (l, ⟨false, z0, z0, 0, [], z0, []⟩) := by unfold kyDo; rw [if_neg n1, if_pos h2, if_neg (by rw [h3]; decide)]
      rw [h3] at S2a
      (repeat (first | (refine Step.go ?_; intros) | refine iteB_t (by decide) ?_ | refine iteB_f (by decide) ?_ | (refine Duo.mk (by first | omega | exact rfl | decide) ?_; intros) | (refine Duo.mk (Clo.mk (by kernel_rfl)) ?_; intros)))
      rename_i H6 S6
      exact same _ H6 rfl ek (S6.to Fits.out)
  have n2 : ¬ o.k = 2 := by simpa using h2
  refine iteB_i (fun h5 => ?_) (fun h5 => ?_)
  · have h5 := eq_of_beq h5
    have ek : kyDo l o = some (l, match holdsS o.t l with | none => ⟨false, z0, z0, 0, [], z0, []⟩ | some v => ⟨true, v.rev, v.cr, v.ver, [], z0, []⟩) := by unfold kyDo; rw [if_neg n1, if_neg n2, if_pos h5]; cases holdsS o.t l <;> rfl
    (repeat (first | (refine Step.go ?_; intros) | refine iteB_t (by decide) ?_ | refine iteB_f (by decide) ?_ | (refine Duo.mk (by first | omega | exact rfl | decide) ?_; intros) | (refine Duo.mk (Clo.mk (by kernel_rfl)) ?_; intros)))
    refine gives_i S1 (sHolds (t := o.t) R1 rfl hn) ?_
    intro H2 E2 S2
    (repeat (first | (refine Step.go ?_; intros) | refine iteB_t (by decide) ?_ | refine iteB_f (by decide) ?_ | (refine Duo.mk (by first | omega | exact rfl | decide) ?_; intros) | (refine Duo.mk (Clo.mk (by kernel_rfl)) ?_; intros)))
    rename_i H6 S6
    have e2 : (match holdsS o.t l with | none => (⟨false, z0, z0, 0, [], z0, []⟩ : An) | some v => ⟨true, v.rev, v.cr, v.ver, [], z0, []⟩) = ⟨(holdsR o.t l).2, (holdsR o.t l).1.rev, (holdsR o.t l).1.cr, (holdsR o.t l).1.ver, [], z0, []⟩ := by
      unfold holdsR; cases holdsS o.t l <;> rfl
    rw [e2] at ek
    exact same _ H6 rfl ek (S6.to Fits.out)
  have n5 : ¬ o.k = 5 := by simpa using h5
  refine iteB_i (fun h6 => ?_) (fun h6 => ?_)
  · have h6 := eq_of_beq h6
    have ek : kyDo l o = some (l, ⟨false, z0, z0, 0, sinceS o.t (l.map (·.rev)), z0, []⟩) := by unfold kyDo; rw [if_neg n1, if_neg n2, if_neg n5, if_pos h6]
    (repeat (first | (refine Step.go ?_; intros) | refine iteB_t (by decide) ?_ | refine iteB_f (by decide) ?_ | (refine Duo.mk (by first | omega | exact rfl | decide) ?_; intros) | (refine Duo.mk (Clo.mk (by kernel_rfl)) ?_; intros)))
    refine grow_i S1 (sSince (t := o.t) R1 rfl hn) ?_
    rintro ⟨q, k⟩ H2 E2 S2
    rw [since_acc] at S2
    have el : (acc (sinceP o.t l) l l.length).length = (sinceS o.t (l.map (·.rev))).length := by rw [← since_acc, List.length_map]
    rw [el] at S2 ⊢
    simp only [List.cons_append, List.nil_append] at S2 ⊢
    (repeat (first | (refine Step.go ?_; intros) | refine iteB_t (by decide) ?_ | refine iteB_f (by decide) ?_ | (refine Duo.mk (by first | omega | exact rfl | decide) ?_; intros) | (refine Duo.mk (Clo.mk (by kernel_rfl)) ?_; intros)))
    rename_i H6 S6
    unfold doPost
    rw [ek]
    exact ⟨p, c, q, k, rfl, S6.to Fits.out⟩
  have n6 : ¬ o.k = 6 := by simpa using h6
  refine iteB_i (fun h7 => ?_) (fun h7 => ?_)
  · have h7 := eq_of_beq h7
    have ek : kyDo l o = some (compS o.t l, ⟨false, z0, z0, 0, keptS o.t true l, z0, []⟩) := by unfold kyDo; rw [if_neg n1, if_neg n2, if_neg n5, if_neg n6, if_pos h7]
    (repeat (first | (refine Step.go ?_; intros) | refine iteB_t (by decide) ?_ | refine iteB_f (by decide) ?_ | (refine Duo.mk (by first | omega | exact rfl | decide) ?_; intros) | (refine Duo.mk (Clo.mk (by kernel_rfl)) ?_; intros)))
    refine grow_i S1 (sKept (t := o.t) (b := true) R1 rfl hn) ?_
    rintro ⟨q, k⟩ H2 E2 S2
    rw [kept_acc hm] at S2
    have el : (acc (keptP o.t l true) l l.length).length = (keptS o.t true l).length := by rw [← kept_acc hm, List.length_map]
    rw [el] at S2 ⊢
    simp only [List.cons_append, List.nil_append] at S2 ⊢
    (repeat (first | (refine Step.go ?_; intros) | refine iteB_t (by decide) ?_ | refine iteB_f (by decide) ?_ | (refine Duo.mk (by first | omega | exact rfl | decide) ?_; intros) | (refine Duo.mk (Clo.mk (by kernel_rfl)) ?_; intros)))
    rename_i H3 S3
    have R3 : RowsAt vC 6 H3 p l := S3.rowsAt (List.mem_cons_of_mem _ (List.mem_cons_of_mem _ (List.mem_cons_of_mem _ (List.mem_cons_of_mem _ (List.mem_cons_self ..)))))
    refine grow_i S3 (sComp (t := o.t) R3 rfl hn) ?_
    rintro ⟨q2, k2⟩ H4 E4 S4
    rw [comp_acc hm] at S4 ⊢
    simp only [List.cons_append, List.nil_append] at S4 ⊢
    (repeat (first | (refine Step.go ?_; intros) | refine iteB_t (by decide) ?_ | refine iteB_f (by decide) ?_ | (refine Duo.mk (by first | omega | exact rfl | decide) ?_; intros) | (refine Duo.mk (Clo.mk (by kernel_rfl)) ?_; intros)))
    rename_i H6 S6
    unfold doPost
    rw [ek]
    exact ⟨q2, k2, q, k, rfl, S6.to Fits.out⟩
  have n7 : ¬ o.k = 7 := by simpa using h7
  refine iteB_i (fun h8 => ?_) (fun h8 => ?_)
  · have h8 := eq_of_beq h8
    have ek : kyDo l o = some (l, ⟨false, z0, z0, 0, keptS o.t false l, z0, []⟩) := by unfold kyDo; rw [if_neg n1, if_neg n2, if_neg n5, if_neg n6, if_neg n7, if_pos h8]
    (repeat (first | (refine Step.go ?_; intros) | refine iteB_t (by decide) ?_ | refine iteB_f (by decide) ?_ | (refine Duo.mk (by first | omega | exact rfl | decide) ?_; intros) | (refine Duo.mk (Clo.mk (by kernel_rfl)) ?_; intros)))
    refine grow_i S1 (sKept (t := o.t) (b := false) R1 rfl hn) ?_
    rintro ⟨q, k⟩ H2 E2 S2
    rw [kept_acc hm] at S2
    have el : (acc (keptP o.t l false) l l.length).length = (keptS o.t false l).length := by rw [← kept_acc hm, List.length_map]
    rw [el] at S2 ⊢
    simp only [List.cons_append, List.nil_append] at S2 ⊢
    (repeat (first | (refine Step.go ?_; intros) | refine iteB_t (by decide) ?_ | refine iteB_f (by decide) ?_ | (refine Duo.mk (by first | omega | exact rfl | decide) ?_; intros) | (refine Duo.mk (Clo.mk (by kernel_rfl)) ?_; intros)))
    rename_i H6 S6
    unfold doPost
    rw [ek]
    exact ⟨p, c, q, k, rfl, S6.to Fits.out⟩
  have n8 : ¬ o.k = 8 := by simpa using h8
  have ek : kyDo l o = some (l, ⟨false, z0, z0, 0, [], z0, []⟩) := by unfold kyDo; rw [if_neg n1, if_neg n2, if_neg n5, if_neg n6, if_neg n7, if_neg n8]
  (repeat (first | (refine Step.go ?_; intros) | refine iteB_t (by decide) ?_ | refine iteB_f (by decide) ?_ | (refine Duo.mk (by first | omega | exact rfl | decide) ?_; intros) | (refine Duo.mk (Clo.mk (by kernel_rfl)) ?_; intros)))
  rename_i H6 S6
  exact same _ H6 rfl ek (S6.to Fits.out)
end
end Go.Proofs.Ytpjnmdeeoafclaa

set_option linter.unusedVariables false
set_option linter.unnecessarySimpa false
set_option linter.unusedSimpArgs false
namespace Go.Proofs.Ytpjnmdeeoafclaa
open Go Go.Den Go.Proofs
theorem star_last {U : TypeId} {Y : List GX} {y : GX} {l : List HP} : Ent (star (bigs (rvT U) 0 (Y ++ [y])) :: l) (rvT U 0 y :: star (bigs (rvT U) 0 Y) :: l) := by
  rw [bigs_append]
  refine Ent.trans (.starPerm (List.perm_append_comm)) ?_
  exact Ent.starCons
section
variable {H0 : Heap} {p : Option Addr} {n c : Nat} {l : List Vs} {md : Rv} {L : List HP}
abbrev ddB (db : Nat) (md : Rv) (q : Option Addr) (m k : Nat) : HP := pt db (.cells ⟨[.int .i64 md.1, .int .i64 md.2, .slice q m k]⟩ 34)
theorem dump_put {r db s2 : Nat} {v : Vs} {X0 : List GX} {g : GS} {rs : List Rv} {q : Option Addr} {m k i : Nat} {s11 : Option Addr} {s11n s11c : Nat} {s12 : Int} {R : Ending → Heap → Prop} {H : Heap} (hm : m < 1000000) (hrs : rs.length < 1000000) (hi : i < 1000000)
    (S : Sat H (pt r (.cells ⟨vC v⟩ 46) :: ddB db md q m k :: dmp 69 31 q m k (X0 ++ [(g, rs)]) L))
    (K : ∀ g' H', gx (g', rs ++ [v.rev]) = (v.ver, g.cr, rs ++ [v.rev]) → Sat H' (ddB db md q m k :: dmp 69 31 q m k (X0 ++ [(g', rs ++ [v.rev])]) L) → F11.L0 p n c s2 db (!v.gone) s11 s11n s11c s12 ((i + 1 : Nat) : Int) H' R) :
    F11.L2 p n c s2 db r s11 s11n s11c s12 (i : Int) H R := by
  have hl := (S.slLen (List.mem_cons_of_mem _ (List.mem_cons_of_mem _ (List.mem_cons_self ..)))).1
  simp at hl
  have S1 : Sat H (star (bigs (rvT 31) 0 (X0 ++ [(g, rs)])) :: pt r (.cells ⟨vC v⟩ 46) :: ddB db md q m k :: sl GS.cells 69 4 q m k ((X0 ++ [(g, rs)]).map (·.1)) :: L) := S.to Fits.out
  have S2 := S1.to star_last
  rw [List.map_append] at S2
  have hl2 : rs.length = g.n := (S2.slLen (List.mem_cons_self ..)).1
  have w1 : IntKind.wrap .i64 ((m : Int) - 1) = (m : Int) - 1 := wr (by omega) (by omega)
  have w2 : IntKind.wrap .i64 ((i : Int) + 1) = ((i + 1 : Nat) : Int) := by rw [wr (by omega) (by omega)]; omega
  have A (y : GS) : HasI (X0.map (·.1) ++ [y]) (IntKind.wrap .i64 ((m : Int) - 1)) y := hasLast (by simpa using hl) w1
  have A1 := A g
  clear S S1
  simp only [List.map_cons, List.map_nil] at S2
  refine F11.L2_step ?_
  unfold F11.L2n
  (repeat (first | (refine Step.go ?_; intros) | refine iteB_t (by decide) ?_ | refine iteB_f (by decide) ?_ | (refine Duo.mk (by first | omega | exact rfl | decide) ?_; intros) | (refine Duo.mk (Clo.mk (by kernel_rfl)) ?_; intros)))
  refine S2.idx (p := q) ⟨by omega, by omega, ?_⟩
  rintro r0 o0 rfl
  (repeat (first | (refine Step.go ?_; intros) | refine iteB_t (by decide) ?_ | refine iteB_f (by decide) ?_ | (refine Duo.mk (by first | omega | exact rfl | decide) ?_; intros) | (refine Duo.mk (Clo.mk (by kernel_rfl)) ?_; intros)))
  dsimp only
  (repeat (first | (refine Step.go ?_; intros) | refine iteB_t (by decide) ?_ | refine iteB_f (by decide) ?_ | (refine Duo.mk (by first | omega | exact rfl | decide) ?_; intros) | (refine Duo.mk (Clo.mk (by kernel_rfl)) ?_; intros)))
  rename_i q' k' _ _ H3 S3
  rw [w2]
  rw [List.set_set, set_last (by rw [w1, List.length_map]; omega)] at S3
  refine K ⟨v.ver, g.cr, q', g.n + 1, k'⟩ H3 rfl ?_
  have S4 : Sat H3 (sl rvC 31 2 q' (g.n + 1) k' (rs ++ [v.rev]) :: star (bigs (rvT 31) 0 X0) :: ddB db md (some ⟨r0, o0, none⟩) m k :: sl GS.cells 69 4 (some ⟨r0, o0, none⟩) m k (X0.map (·.1) ++ [⟨v.ver, g.cr, q', g.n + 1, k'⟩]) :: L) := S3.to Fits.out
  have S5 := S4.to (star_snoc (U := 31) (Y := X0) (y := ((⟨v.ver, g.cr, q', g.n + 1, k'⟩ : GS), rs ++ [v.rev])))
  rw [show (X0.map (·.1) ++ [⟨v.ver, g.cr, q', g.n + 1, k'⟩] : List GS) = (X0 ++ [((⟨v.ver, g.cr, q', g.n + 1, k'⟩ : GS), rs ++ [v.rev])]).map (·.1) by simp] at S5
  exact S5.to Fits.out
end
end Go.Proofs.Ytpjnmdeeoafclaa

set_option linter.unusedVariables false
set_option linter.unnecessarySimpa false
set_option linter.unusedSimpArgs false
namespace Go.Proofs.Ytpjnmdeeoafclaa
open Go Go.Den Go.Proofs
theorem dfold_len {l : List Vs} : (l.foldl dStep ([], false)).1.length ≤ l.length ∧ (∀ g ∈ (l.foldl dStep ([], false)).1, g.2.2.length ≤ l.length) ∧ ((l.foldl dStep ([], false)).2 = true → (l.foldl dStep ([], false)).1 ≠ []) := by
  induction l using snoc_ind with
  | h0 => exact ⟨Nat.le_refl _, (by intro g hg; cases hg), (by intro h; cases h)⟩
  | h1 l v ih =>
    rw [List.foldl_append]
    obtain ⟨h1, h2, h3⟩ := ih
    generalize l.foldl dStep ([], false) = st at h1 h2 h3
    obtain ⟨G, b⟩ := st
    simp only [List.foldl_cons, List.foldl_nil, List.length_append, List.length_cons, List.length_nil]
    dsimp only at h1 h2 h3
    cases b with
    | false =>
      have e : dStep (G, false) v = (G ++ [(v.ver, v.cr, [v.rev])], !v.gone) := by simp [dStep]
      rw [e]
      refine ⟨by simp; omega, fun g hg => ?_, fun _ => by simp⟩
      rcases List.mem_append.1 hg with hg | hg
      · have := h2 g hg; omega
      · simp at hg; subst hg; simp
    | true =>
      rcases List.eq_nil_or_concat G with rfl | ⟨G0, g0', rfl⟩
      · exact absurd rfl (h3 rfl)
      · rw [List.concat_eq_append] at *
        have e : dStep (G0 ++ [g0'], true) v = (G0 ++ [(v.ver, g0'.2.1, g0'.2.2 ++ [v.rev])], !v.gone) := by simp [dStep]
        rw [e]
        refine ⟨by simp at h1 ⊢; omega, fun g hg => ?_, fun _ => by simp⟩
        rcases List.mem_append.1 hg with hg | hg
        · have := h2 g (List.mem_append_left _ hg); omega
        · simp at hg; subst hg
          have := h2 g0' (by simp)
          simp; omega
section
variable {H0 : Heap} {p : Option Addr} {n c : Nat} {l : List Vs} {md : Rv} {L : List HP}
theorem dump_loop [R0 : RowsC H0 p vC 6 l] (hl : l.length = n) (hn : n < 100000) {db s2 : Nat} : ∀ (d i : Nat) (X : List GX) (b : Bool) (q : Option Addr) (k : Nat) (H : Heap), i + d = n → (X.map gx, b) = (l.take i).foldl dStep ([], false) →
    Sat H (ddB db md q X.length k :: dmp 69 31 q X.length k X [pt s2 (.cells ⟨[.int .i64 0, .int .i64 0, .slice none 0 0]⟩ 34), old H0]) →
    F11.L0 p n c s2 db b p n c (n : Int) (i : Int) H (fun e H1 => ∃ x : DI (dumpG l), e = .returned (x.v md) ∧ Sat H1 (x.l 69 31 ++ [old H0])) := by
  intro d
  induction d with
  | zero =>
    intro i X b q k H hi hX S
    obtain rfl : i = n := by omega
    rw [List.take_of_length_le (by omega)] at hX
    have fin : ∀ (Y : List GX) (q' : Option Addr) (k' : Nat) (H' : Heap), Y.map gx = dumpG l → Sat H' (sl GS.cells 69 4 q' Y.length k' (Y.map (·.1)) :: star (bigs (rvT 31) 0 Y) :: [old H0]) → ∃ x : DI (dumpG l), (Ending.returned (.agg ⟨[.int .i64 md.1, .int .i64 md.2, .slice q' Y.length k']⟩)) = .returned (x.v md) ∧ Sat H' (x.l 69 31 ++ [old H0]) := by
      intro Y q' k' H' hY S'
      have hlen : Y.length = (dumpG l).length := by rw [← hY, List.length_map]
      refine ⟨⟨((q', k'), Y), hY⟩, by rw [hlen], ?_⟩
      show Sat H' (sl GS.cells 69 4 q' (dumpG l).length k' (Y.map (·.1)) :: star (bigs (rvT 31) 0 Y) :: [old H0])
      rw [← hlen]
      exact S'
    have hst : (l.foldl dStep ([], false)).1 = X.map gx := by rw [← hX]
    refine F11.L0_step ?_
    unfold F11.L0n
    refine iteB_f (by rw [decide_eq_false_iff_not]; omega) ?_
    refine iteB_i (fun h => ?_) (fun h => ?_)
    · have E0 : ExtH H0 H := Sat.grown
      refine gives_i S (sLives (R0.out.ext E0) hl (by omega)) ?_
      intro H1 E1 S1
      (repeat (first | (refine Step.go ?_; intros) | refine iteB_t (by decide) ?_ | refine iteB_f (by decide) ?_ | (refine Duo.mk (by first | omega | exact rfl | decide) ?_; intros) | (refine Duo.mk (Clo.mk (by kernel_rfl)) ?_; intros)))
      have hlne : l ≠ [] := by intro h0; rw [h0] at hl; have := of_decide_eq_true h; simp at hl; omega
      refine iteB_i (fun h2 => ?_) (fun h2 => ?_)
      · have h2 : livesS l = false := by simpa using h2
        have hd : dumpG l = X.map gx ++ [g0] := by unfold dumpG; rw [if_pos ⟨hlne, h2⟩, hst]
        have hXl : X.length < 1000000 := by
          have := (dfold_len (l := l)).1
          rw [hst, List.length_map] at this; omega
        refine F11.L1_step ?_
        unfold F11.L1n
        (repeat (first | (refine Step.go ?_; intros) | refine iteB_t (by decide) ?_ | refine iteB_f (by decide) ?_ | (refine Duo.mk (by first | omega | exact rfl | decide) ?_; intros) | (refine Duo.mk (Clo.mk (by kernel_rfl)) ?_; intros)))
        rename_i q' k' _ _ _ _ _ _ _ _ H2 S2
        have S3 : Sat H2 (sl GS.cells 69 4 q' (X.length + 1) k' (X.map (·.1) ++ [⟨0, (0, 0), none, 0, 0⟩]) :: star (bigs (rvT 31) 0 X) :: [old H0]) := S2.to Fits.out
        have S3a : Sat H2 (sl rvC 31 2 none 0 0 [] :: sl GS.cells 69 4 q' (X.length + 1) k' (X.map (·.1) ++ [⟨0, (0, 0), none, 0, 0⟩]) :: star (bigs (rvT 31) 0 X) :: [old H0]) := S3.to (.slNil .refl)
        have S4 : Sat H2 (sl rvC 31 2 none 0 0 [] :: star (bigs (rvT 31) 0 X) :: sl GS.cells 69 4 q' (X.length + 1) k' (X.map (·.1) ++ [⟨0, (0, 0), none, 0, 0⟩]) :: [old H0]) := S3a.to Fits.out
        have S5 := S4.to (star_snoc (U := 31) (Y := X) (y := ((⟨0, (0, 0), none, 0, 0⟩ : GS), ([] : List Rv))))
        rw [show (X.map (·.1) ++ [⟨0, (0, 0), none, 0, 0⟩] : List GS) = (X ++ [((⟨0, (0, 0), none, 0, 0⟩ : GS), ([] : List Rv))]).map (·.1) by simp, show X.length + 1 = (X ++ [((⟨0, (0, 0), none, 0, 0⟩ : GS), ([] : List Rv))]).length by simp] at S5
        have := fin (X ++ [((⟨0, (0, 0), none, 0, 0⟩ : GS), ([] : List Rv))]) q' k' H2 (by rw [hd]; simp; rfl) (S5.to Fits.out)
        rw [show (X ++ [((⟨0, (0, 0), none, 0, 0⟩ : GS), ([] : List Rv))]).length = X.length + 1 by simp] at this
        exact this
      · have h2 : livesS l = true := by simpa using h2
        have hd : dumpG l = X.map gx := by unfold dumpG; rw [if_neg (by rw [h2]; simp), hst]
        (repeat (first | (refine Step.go ?_; intros) | refine iteB_t (by decide) ?_ | refine iteB_f (by decide) ?_ | (refine Duo.mk (by first | omega | exact rfl | decide) ?_; intros) | (refine Duo.mk (Clo.mk (by kernel_rfl)) ?_; intros)))
        rename_i H2 S2
        exact fin X q k H2 hd.symm (S2.to Fits.out)
    · have hle : l = [] := List.eq_nil_of_length_eq_zero (by have := of_decide_eq_false h; omega)
      have hd : dumpG l = X.map gx := by unfold dumpG; rw [if_neg (by rw [hle]; simp), hst]
      (repeat (first | (refine Step.go ?_; intros) | refine iteB_t (by decide) ?_ | refine iteB_f (by decide) ?_ | (refine Duo.mk (by first | omega | exact rfl | decide) ?_; intros) | (refine Duo.mk (Clo.mk (by kernel_rfl)) ?_; intros)))
      rename_i H2 S2
      exact fin X q k H2 hd.symm (S2.to Fits.out)
  | succ d ih =>
    intro i X b q k H hi hX S
    obtain ⟨v, hv⟩ := get_of (l := l) (i := i) (by omega)
    have A1 : HasI l (i : Int) v := ⟨by simpa using hv⟩
    have hfl := dfold_len (l := l.take i)
    rw [← hX] at hfl
    obtain ⟨f1, f2, f3⟩ := hfl
    dsimp only at f1 f2 f3
    have ht : (l.take i).length = i := by rw [List.length_take]; omega
    rw [ht, List.length_map] at f1
    have hX2 : (l.take (i + 1)).foldl dStep ([], false) = dStep (X.map gx, b) v := by
      rw [take_succ hv, List.foldl_append, ← hX]; rfl
    refine F11.L0_step ?_
    unfold F11.L0n
    refine iteB_t (by rw [decide_eq_true_iff]; omega) ?_
    refine R0.idx hl ⟨by omega, by omega, ?_⟩
    rintro a rfl
    (repeat (first | (refine Step.go ?_; intros) | refine iteB_t (by decide) ?_ | refine iteB_f (by decide) ?_ | (refine Duo.mk (by first | omega | exact rfl | decide) ?_; intros) | (refine Duo.mk (Clo.mk (by kernel_rfl)) ?_; intros)))
    rename_i r _ _ _ _ _ _ _ _ _ _ _ _ H1 S1
    cases b with
    | false =>
      refine iteB_t rfl ?_
      (repeat (first | (refine Step.go ?_; intros) | refine iteB_t (by decide) ?_ | refine iteB_f (by decide) ?_ | (refine Duo.mk (by first | omega | exact rfl | decide) ?_; intros) | (refine Duo.mk (Clo.mk (by kernel_rfl)) ?_; intros)))
      rename_i q' k' _ _ H2 S2
      have S4 : Sat H2 (sl rvC 31 2 none 0 0 [] :: star (bigs (rvT 31) 0 X) :: pt r (.cells ⟨vC v⟩ 46) :: ddB db md q' (X.length + 1) k' :: sl GS.cells 69 4 q' (X.length + 1) k' (X.map (·.1) ++ [⟨0, v.cr, none, 0, 0⟩]) :: [pt s2 (.cells ⟨[.int .i64 0, .int .i64 0, .slice none 0 0]⟩ 34), old H0]) := by
        have S3 : Sat H2 (star (bigs (rvT 31) 0 X) :: pt r (.cells ⟨vC v⟩ 46) :: ddB db md q' (X.length + 1) k' :: sl GS.cells 69 4 q' (X.length + 1) k' (X.map (·.1) ++ [⟨0, (v.cr.1, v.cr.2), none, 0, 0⟩]) :: [pt s2 (.cells ⟨[.int .i64 0, .int .i64 0, .slice none 0 0]⟩ 34), old H0]) := S2.to Fits.out
        exact S3.to (.slNil .refl)
      have S5 := S4.to (star_snoc (U := 31) (Y := X) (y := ((⟨0, v.cr, none, 0, 0⟩ : GS), ([] : List Rv))))
      rw [show (X.map (·.1) ++ [⟨0, v.cr, none, 0, 0⟩] : List GS) = (X ++ [((⟨0, v.cr, none, 0, 0⟩ : GS), ([] : List Rv))]).map (·.1) by simp] at S5
      refine dump_put (q := q') (k := k') (L := [pt s2 (.cells ⟨[.int .i64 0, .int .i64 0, .slice none 0 0]⟩ 34), old H0]) (md := md) (v := v) (X0 := X) (g := ⟨0, v.cr, none, 0, 0⟩) (rs := []) (m := X.length + 1) (by omega) (by simp) (by omega) (S5.to Fits.out) ?_
      intro g' H3 hg' S6
      refine ih (i + 1) (X ++ [(g', ([] : List Rv) ++ [v.rev])]) _ q' k' H3 (by omega) ?_ (by
        have e9 : (X ++ [(g', ([] : List Rv) ++ [v.rev])]).length = X.length + 1 := by simp
        rw [e9]; exact S6)
      rw [hX2, List.map_append]
      show (X.map gx ++ [gx (g', ([] : List Rv) ++ [v.rev])], _) = _
      rw [hg']
      simp [dStep]
    | true =>
      refine iteB_f rfl ?_
      have hne := f3 rfl
      rcases List.eq_nil_or_concat X with rfl | ⟨X0, ⟨g, rs⟩, rfl⟩ <;> try rw [List.concat_eq_append] at *
      · exact absurd rfl hne
      have hrs := f2 (gx (g, rs)) (by simp)
      rw [ht] at hrs
      replace hrs : rs.length ≤ i := hrs
      refine dump_put (q := q) (k := k) (L := [pt s2 (.cells ⟨[.int .i64 0, .int .i64 0, .slice none 0 0]⟩ 34), old H0]) (md := md) (v := v) (X0 := X0) (g := g) (rs := rs) (m := (X0 ++ [(g, rs)]).length) (by omega) (by omega) (by omega) (S1.to Fits.out) ?_
      intro g' H3 hg' S6
      refine ih (i + 1) (X0 ++ [(g', rs ++ [v.rev])]) _ q k H3 (by omega) ?_ (by rw [show (X0 ++ [(g', rs ++ [v.rev])]).length = (X0 ++ [(g, rs)]).length by simp]; exact S6)
      rw [hX2, List.map_append, List.map_append]
      show (X0.map gx ++ [gx (g', rs ++ [v.rev])], _) = dStep (X0.map gx ++ [gx (g, rs)], true) v
      rw [hg']
      simp [dStep, gx]
theorem sDump {H : Heap} (hR : RowsAt vC 6 H p l) (hl : l.length = n) (hn : n < 100000) : CallsH Try.prog 11 ⟨[.slice p n c]⟩ H (fun e H1 => ∃ x : DI (dumpG l), e = .returned (x.v (modS l)) ∧ Sat H1 (x.l 69 31 ++ [old H])) := by
  have R0 : RowsC H p vC 6 l := ⟨hR⟩
  have S := Sat.start H
  refine F11.calls ?_
  unfold F11.go
  (repeat (first | (refine Step.go ?_; intros) | refine iteB_t (by decide) ?_ | refine iteB_f (by decide) ?_ | (refine Duo.mk (by first | omega | exact rfl | decide) ?_; intros) | (refine Duo.mk (Clo.mk (by kernel_rfl)) ?_; intros)))
  rename_i s2 H1 S1
  have E1 : ExtH H H1 := Sat.grown
  refine gives_i S1 (sMod (hR.ext E1) hl (by omega)) ?_
  intro H2 E2 S2
  (repeat (first | (refine Step.go ?_; intros) | refine iteB_t (by decide) ?_ | refine iteB_f (by decide) ?_ | (refine Duo.mk (by first | omega | exact rfl | decide) ?_; intros) | (refine Duo.mk (Clo.mk (by kernel_rfl)) ?_; intros)))
  rename_i db _ _ _ _ _ _ H3 S3
  have S4 : Sat H3 (star (bigs (rvT 31) 0 []) :: ddB db (modS l) none 0 0 :: [pt s2 (.cells ⟨[.int .i64 0, .int .i64 0, .slice none 0 0]⟩ 34), old H]) := S3.to (.star (by simp only [bigs, List.nil_append]; exact Fits.out))
  have S5 : Sat H3 (sl GS.cells 69 4 none 0 0 (([] : List GX).map (·.1)) :: star (bigs (rvT 31) 0 []) :: ddB db (modS l) none 0 0 :: [pt s2 (.cells ⟨[.int .i64 0, .int .i64 0, .slice none 0 0]⟩ 34), old H]) := S4.to (.slNil .refl)
  exact dump_loop hl hn n 0 [] false none 0 H3 (by omega) rfl (S5.to Fits.out)
end
end Go.Proofs.Ytpjnmdeeoafclaa

set_option linter.unusedVariables false
set_option linter.unnecessarySimpa false
set_option linter.unusedSimpArgs false
namespace Go.Proofs.Ytpjnmdeeoafclaa
open Go Go.Den Go.Proofs
/-! kyLife. -/
def kyRun : List Vs → Bool → List KO → Option (List Vs × List An)
  | l, _, [] => some (l, [])
  | l, f, o :: os => match kyOne l f o with
    | none => none
    | some (m, a) => match kyRun m false os with
      | none => none
      | some (l', aa) => some (l', a :: aa)
def VOk (l : List Vs) (N : Nat) : Prop := Mains l ∧ (∀ v ∈ l, -1000000 ≤ v.ver ∧ v.ver < 1000000) ∧ l.length ≤ N
abbrev failV : Value := .tuple ⟨[.slice none 0 0, .slice none 0 0, .bool false]⟩
def lifePost (l : List Vs) (f : Bool) (os : List KO) (done : List An) (L : List HP) (e : Ending) (H1 : Heap) : Prop := match kyRun l f os with
  | none => e = .returned failV ∧ Sat H1 L
  | some (l', aa) => ∃ p' c' q k xs, e = .returned (.tuple ⟨[.slice p' l'.length c', .slice q xs.length k, .bool true]⟩) ∧ xs.map KA.an = done ++ aa ∧ Sat H1 (sl vC 46 6 p' l'.length c' l' :: kaL q xs.length k xs L)
section
variable {H0 : Heap} {L : List HP} {s : Option Addr} {sc : Nat} {ops : List KO}
theorem life_l4 {l : List Vs} {p q rp : Option Addr} {c k rc s9 : Nat} {xs : List KA} {a : An} {i : Nat} {H : Heap} {R : Ending → Heap → Prop} (hl : l.length < 100000) (hx : xs.length < 100000) (hi : i < 100000)
    (S : Sat H (pt s9 (.cells ⟨anC a rp rc⟩ 42) :: sl rvC 31 2 rp a.revs.length rc a.revs :: sl vC 46 6 p l.length c l :: kaL q xs.length k xs L))
    (K : ∀ x q' k' H', x.an = { a with md := modS l, G := dumpG l } → Sat H' (sl vC 46 6 p l.length c l :: kaL q' (xs ++ [x]).length k' (xs ++ [x]) L) → F7.L0 p l.length c q' (xs ++ [x]).length k' s ops.length sc (ops.length : Int) ((i + 1 : Nat) : Int) H' R) :
    F7.L4 q xs.length k p l.length c s9 s ops.length sc (ops.length : Int) (i : Int) H R := by
  have w1 : IntKind.wrap .i64 ((i : Int) + 1) = ((i + 1 : Nat) : Int) := by rw [wr (by omega) (by omega)]; omega
  refine F7.L4_step ?_
  unfold F7.L4n
  have hR : RowsAt vC 6 H p l := S.rowsAt (List.mem_cons_of_mem _ (List.mem_cons_of_mem _ (List.mem_cons_self ..)))
  refine grow_i S (sDump hR rfl hl) ?_
  rintro ⟨⟨⟨gp, gc⟩, Z⟩, hZ⟩ H2 E2 S3
  dsimp only at hZ
  simp only [List.cons_append, List.nil_append, DI.l, DI.v] at S3 ⊢
  have hZl : (dumpG l).length = Z.length := by rw [← hZ, List.length_map]
  rw [hZl] at S3 ⊢
  have EN : Enc KA.cells [.bool a.ok, .int .i64 a.mod.1, .int .i64 a.mod.2, .int .i64 a.cr.1, .int .i64 a.cr.2, .int .i64 a.ver, .slice rp a.revs.length rc, .int .i64 (modS l).1, .int .i64 (modS l).2, .slice gp Z.length gc] (⟨a.ok, a.mod, a.cr, a.ver, a.revs, rp, rc, modS l, gp, gc, Z⟩ : KA) := ⟨rfl⟩
  (repeat (first | (refine Step.go ?_; intros) | refine iteB_t (by decide) ?_ | refine iteB_f (by decide) ?_ | (refine Duo.mk (by first | omega | exact rfl | decide) ?_; intros) | (refine Duo.mk (Clo.mk (by kernel_rfl)) ?_; intros)))
  rename_i q' k' H4 S4
  rw [w1]
  have := K ⟨a.ok, a.mod, a.cr, a.ver, a.revs, rp, rc, modS l, gp, gc, Z⟩ q' k' H4 (by unfold KA.an; rw [hZ]) ?_
  · rw [show (xs ++ [(⟨a.ok, a.mod, a.cr, a.ver, a.revs, rp, rc, modS l, gp, gc, Z⟩ : KA)]).length = xs.length + 1 by simp] at this
    exact this
  · have S5 : Sat H4 (sl rvC 31 2 rp a.revs.length rc a.revs :: sl GS.cells 69 4 gp Z.length gc (Z.map (·.1)) :: star (bigs (rvT 31) 0 Z) :: star (bigs kaP 0 xs) :: sl vC 46 6 p l.length c l :: sl KA.cells 42 10 q' (xs.length + 1) k' (xs ++ [⟨a.ok, a.mod, a.cr, a.ver, a.revs, rp, rc, modS l, gp, gc, Z⟩]) :: L) := S4.to Fits.out
    have S6 : Sat H4 (kaP 0 ⟨a.ok, a.mod, a.cr, a.ver, a.revs, rp, rc, modS l, gp, gc, Z⟩ :: star (bigs kaP 0 xs) :: sl vC 46 6 p l.length c l :: sl KA.cells 42 10 q' (xs.length + 1) k' (xs ++ [⟨a.ok, a.mod, a.cr, a.ver, a.revs, rp, rc, modS l, gp, gc, Z⟩]) :: L) := S5.to (.star (by simp only [List.cons_append, List.nil_append]; exact .refl))
    rw [show (xs ++ [(⟨a.ok, a.mod, a.cr, a.ver, a.revs, rp, rc, modS l, gp, gc, Z⟩ : KA)]).length = xs.length + 1 by simp]
    exact (S6.to ka_snoc).to Fits.out
end
end Go.Proofs.Ytpjnmdeeoafclaa

set_option linter.unusedVariables false
set_option linter.unnecessarySimpa false
set_option linter.unusedSimpArgs false
namespace Go.Proofs.Ytpjnmdeeoafclaa
open Go Go.Den Go.Proofs
section
variable {H0 : Heap} {L : List HP} {s : Option Addr} {sc : Nat} {ops : List KO}
abbrev lst (p : Option Addr) (c : Nat) (l : List Vs) (q : Option Addr) (k : Nat) (xs : List KA) (L : List HP) : List HP := sl vC 46 6 p l.length c l :: kaL q xs.length k xs L
theorem fail_post {l : List Vs} {f : Bool} {o : KO} {os : List KO} {done : List An} {p q : Option Addr} {c k : Nat} {xs : List KA} {H : Heap} (h : kyOne l f o = none) (S : Sat H (lst p c l q k xs L)) : lifePost l f (o :: os) done L (.returned failV) H := by
  unfold lifePost kyRun
  rw [h]
  exact ⟨rfl, S.to (.drop (.drop (.drop .refl)))⟩
theorem life_l3 {l : List Vs} {f : Bool} {o : KO} {os : List KO} {p q : Option Addr} {c k s9 : Nat} {xs : List KA} {i : Nat} {H : Heap} (hl : l.length < 100000) (hx : xs.length < 100000) (hi : i < 100000) (hm : Mains l) (hv : ∀ v ∈ l, -1000000 ≤ v.ver ∧ v.ver < 1000000)
    (hk : kyOne l f o = match kyDo l o with | none => none | some (m, a) => if m = [] then none else some (m, { a with md := modS m, G := dumpG m }))
    (S : Sat H (pt s9 (.cells ⟨o.cells⟩ 39) :: lst p c l q k xs L))
    (hml : ∀ m a, kyOne l f o = some (m, a) → m.length < 100000)
    (K : ∀ m a p' c' x q' k' H', kyOne l f o = some (m, a) → x.an = a → Sat H' (lst p' c' m q' k' (xs ++ [x]) L) → F7.L0 p' m.length c' q' (xs ++ [x]).length k' s ops.length sc (ops.length : Int) ((i + 1 : Nat) : Int) H' (lifePost m false os ((xs ++ [x]).map KA.an) L)) :
    F7.L3 p l.length c q xs.length k s9 s ops.length sc (ops.length : Int) (i : Int) H (lifePost l f (o :: os) (xs.map KA.an) L) := by
  refine F7.L3_step ?_
  unfold F7.L3n
  have S1 : Sat H (sl vC 46 6 p l.length c l :: pt s9 (.cells ⟨o.cells⟩ 39) :: kaL q xs.length k xs L) := S.to Fits.out
  (repeat (first | (refine Step.go ?_; intros) | refine iteB_t (by decide) ?_ | refine iteB_f (by decide) ?_ | (refine Duo.mk (by first | omega | exact rfl | decide) ?_; intros) | (refine Duo.mk (Clo.mk (by kernel_rfl)) ?_; intros)))
  refine call_of (keyDo_ok (o := o) rfl (by omega) hm hv S1) ?_
  intro e H1 hd
  unfold doPost at hd
  cases hdo : kyDo l o with
  | none =>
    rw [hdo] at hd hk
    dsimp only at hd hk
    obtain ⟨x, y, rfl, S2⟩ := hd
    (repeat (first | (refine Step.go ?_; intros) | refine iteB_t (by decide) ?_ | refine iteB_f (by decide) ?_ | (refine Duo.mk (by first | omega | exact rfl | decide) ?_; intros) | (refine Duo.mk (Clo.mk (by kernel_rfl)) ?_; intros)))
    rename_i H3 S3
    unfold lifePost kyRun
    rw [hk]
    exact ⟨rfl, S3.to (.drop (.drop (.drop (.drop .refl))))⟩
  | some ma =>
    obtain ⟨m, a⟩ := ma
    rw [hdo] at hd hk
    dsimp only at hd hk
    obtain ⟨p', c', rp, rc, rfl, S2⟩ := hd
    (repeat (first | (refine Step.go ?_; intros) | refine iteB_t (by decide) ?_ | refine iteB_f (by decide) ?_ | (refine Duo.mk (by first | omega | exact rfl | decide) ?_; intros) | (refine Duo.mk (Clo.mk (by kernel_rfl)) ?_; intros)))
    rename_i r _ _ _ _ _ _ _ _ _ _ _ _ _ _ _ _ _ _ _ _ H3 S3
    by_cases hm0 : m = []
    · rw [if_pos hm0] at hk
      subst hm0
      refine iteB_t rfl ?_
      unfold lifePost kyRun
      rw [hk]
      exact ⟨rfl, S3.to (.drop (.drop (.drop (.drop (.drop (.drop .refl))))))⟩
    · rw [if_neg hm0] at hk
      have hlen : 0 < m.length := List.length_pos_iff.2 hm0
      refine iteB_f (by simp; omega) ?_
      have S4 : Sat H3 (pt r (.cells ⟨anC a rp rc⟩ 42) :: sl rvC 31 2 rp a.revs.length rc a.revs :: sl vC 46 6 p' m.length c' m :: kaL q xs.length k xs L) := S3.to Fits.out
      refine GoL.mono (life_l4 (hml m _ hk) hx hi S4 (R := lifePost m false os (xs.map KA.an ++ [{ a with md := modS m, G := dumpG m }]) L) ?_) ?_
      · intro x q' k' H' hxa S5
        have := K m _ p' c' x q' k' H' hk hxa S5
        rw [List.map_append] at this
        simp only [List.map_cons, List.map_nil, hxa] at this
        exact this
      · intro e H4 h4
        unfold lifePost at h4 ⊢
        unfold kyRun
        rw [hk]
        dsimp only
        cases hr : kyRun m false os with
        | none => rw [hr] at h4; exact h4
        | some la =>
          rw [hr] at h4
          obtain ⟨l', aa⟩ := la
          dsimp only at h4 ⊢
          obtain ⟨p9, c9, q9, k9, x9, h5, h6, h7⟩ := h4
          exact ⟨p9, c9, q9, k9, x9, h5, by rw [h6, List.append_assoc]; rfl, h7⟩
end
end Go.Proofs.Ytpjnmdeeoafclaa

set_option linter.unusedVariables false
set_option linter.unnecessarySimpa false
set_option linter.unusedSimpArgs false
namespace Go.Proofs.Ytpjnmdeeoafclaa
open Go Go.Den Go.Proofs
section
variable {H0 : Heap} {L : List HP} {s : Option Addr} {sc : Nat} {ops : List KO}
theorem life_loop [O : OldAt L H0] [R0 : RowsC H0 s KO.cells 7 ops] (hn : ops.length ≤ 300) {P : List Vs → Nat → Prop} (hP1 : ∀ l i, P l i → Mains l ∧ (∀ v ∈ l, -1000000 ≤ v.ver ∧ v.ver < 1000000) ∧ l.length < 100000)
    (hP2 : ∀ l i o m a, i < 300 → P l i → kyOne l (decide (i = 0)) o = some (m, a) → P m (i + 1)) : ∀ (d i : Nat) (l : List Vs) (p q : Option Addr) (c k : Nat) (xs : List KA) (H : Heap), i + d = ops.length → xs.length = i → P l i → Sat H (lst p c l q k xs L) →
    F7.L0 p l.length c q xs.length k s ops.length sc (ops.length : Int) (i : Int) H (lifePost l (decide (i = 0)) (ops.drop i) (xs.map KA.an) L) := by
  intro d
  induction d with
  | zero =>
    intro i l p q c k xs H hi hx hP S
    refine F7.L0_step ?_
    unfold F7.L0n
    refine iteB_f (by rw [decide_eq_false_iff_not]; omega) ?_
    rw [List.drop_eq_nil_of_le (by omega)]
    unfold lifePost kyRun
    exact ⟨p, c, q, k, xs, rfl, by simp, S⟩
  | succ d ih =>
    intro i l p q c k xs H hi hx hP S
    obtain ⟨hm, hv, hl⟩ := hP1 l i hP
    obtain ⟨o, ho⟩ := get_of (l := ops) (i := i) (by omega)
    have ed : ops.drop i = o :: ops.drop (i + 1) := by
      have h5 := List.getElem?_eq_some_iff.1 ho
      rw [List.drop_eq_getElem_cons h5.1, h5.2]
    rw [ed]
    have A1 : HasI ops (i : Int) o := ⟨by simpa using ho⟩
    refine F7.L0_step ?_
    unfold F7.L0n
    refine iteB_t (by rw [decide_eq_true_iff]; omega) ?_
    refine R0.idx rfl ⟨by omega, by omega, ?_⟩
    rintro a rfl
    (repeat (first | (refine Step.go ?_; intros) | refine iteB_t (by decide) ?_ | refine iteB_f (by decide) ?_ | (refine Duo.mk (by first | omega | exact rfl | decide) ?_; intros) | (refine Duo.mk (Clo.mk (by kernel_rfl)) ?_; intros)))
    rename_i r _ _ _ _ _ _ _ _ _ _ _ _ _ _ H2 S2
    have S2 : Sat H2 (pt r (.cells ⟨o.cells⟩ 39) :: lst p c l q k xs L) := S2
    refine iteB_i (fun h3 => ?_) (fun h3 => ?_)
    · have h3 := eq_of_beq h3
      exact fail_post (by unfold kyOne; rw [if_pos (.inl h3)]) (S2.to (.drop .refl))
    have h3 : ¬ o.k = 3 := by simpa using h3
    (repeat (first | (refine Step.go ?_; intros) | refine iteB_t (by decide) ?_ | refine iteB_f (by decide) ?_ | (refine Duo.mk (by first | omega | exact rfl | decide) ?_; intros) | (refine Duo.mk (Clo.mk (by kernel_rfl)) ?_; intros)))
    refine iteB_i (fun h4 => ?_) (fun h4 => ?_)
    · have h4 := eq_of_beq h4
      exact fail_post (by unfold kyOne; rw [if_pos (.inr (.inl h4))]) (S2.to (.drop .refl))
    have h4 : ¬ o.k = 4 := by simpa using h4
    (repeat (first | (refine Step.go ?_; intros) | refine iteB_t (by decide) ?_ | refine iteB_f (by decide) ?_ | (refine Duo.mk (by first | omega | exact rfl | decide) ?_; intros) | (refine Duo.mk (Clo.mk (by kernel_rfl)) ?_; intros)))
    refine iteB_i (fun h5 => ?_) (fun h5 => ?_)
    · have h5 := of_decide_eq_true h5
      exact fail_post (by unfold kyOne; rw [if_pos (.inr (.inr (.inl h5)))]) (S2.to (.drop .refl))
    have h5 := of_decide_eq_false h5
    (repeat (first | (refine Step.go ?_; intros) | refine iteB_t (by decide) ?_ | refine iteB_f (by decide) ?_ | (refine Duo.mk (by first | omega | exact rfl | decide) ?_; intros) | (refine Duo.mk (Clo.mk (by kernel_rfl)) ?_; intros)))
    refine iteB_i (fun h6 => ?_) (fun h6 => ?_)
    · have h6 := of_decide_eq_true h6
      exact fail_post (by unfold kyOne; rw [if_pos (.inr (.inr (.inr h6)))]) (S2.to (.drop .refl))
    have h6 := of_decide_eq_false h6
    have hk0 : ¬ (o.k = 3 ∨ o.k = 4 ∨ o.k < 1 ∨ 8 < o.k) := by omega
    have hno : ((decide (i = 0) = true ∧ l = [] ∧ o.k ≠ 1) ∨ ((o.k = 1 ∨ o.k = 2) ∧ ixRev o.rev = false)) → kyOne l (decide (i = 0)) o = none := by
      intro h; unfold kyOne; rw [if_neg hk0, if_pos h]
    have go3 : ∀ H', Sat H' (pt r (.cells ⟨o.cells⟩ 39) :: lst p c l q k xs L) → (¬ ((decide (i = 0) = true ∧ l = [] ∧ o.k ≠ 1) ∨ ((o.k = 1 ∨ o.k = 2) ∧ ixRev o.rev = false))) → (¬ (o.k = 1 ∧ l ≠ [] ∧ livesS l = false ∧ (modS l).1 = o.rev.1)) →
        F7.L3 p l.length c q xs.length k r (some a) ops.length sc (ops.length : Int) (i : Int) H' (lifePost l (decide (i = 0)) (o :: ops.drop (i + 1)) (xs.map KA.an) L) := by
      intro H' S' hc1 hc2
      have hk : kyOne l (decide (i = 0)) o = match kyDo l o with | none => none | some (m, a) => if m = [] then none else some (m, { a with md := modS m, G := dumpG m }) := by
        unfold kyOne; rw [if_neg hk0, if_neg hc1, if_neg hc2]; cases kyDo l o <;> rfl
      refine life_l3 hl (by omega) (by omega) hm hv hk S' (fun m b hb => (hP1 m (i + 1) (hP2 l i o m b (by omega) hP hb)).2.2) ?_
      intro m b p' c' x q' k' H'' hb hxb S''
      have := ih (i + 1) m p' q' c' k' (xs ++ [x]) H'' (by omega) (by simp [hx]) (hP2 l i o m b (by omega) hP hb) S''
      rw [decide_eq_false (by omega : ¬ i + 1 = 0)] at this
      exact this
    have go2 : ∀ H', Sat H' (pt r (.cells ⟨o.cells⟩ 39) :: lst p c l q k xs L) → (¬ ((decide (i = 0) = true ∧ l = [] ∧ o.k ≠ 1) ∨ ((o.k = 1 ∨ o.k = 2) ∧ ixRev o.rev = false))) →
        F7.L2 p l.length c q xs.length k r (some a) ops.length sc (ops.length : Int) (i : Int) H' (lifePost l (decide (i = 0)) (o :: ops.drop (i + 1)) (xs.map KA.an) L) := by
      intro H' S' hc1
      refine F7.L2_step ?_
      unfold F7.L2n
      (repeat (first | (refine Step.go ?_; intros) | refine iteB_t (by decide) ?_ | refine iteB_f (by decide) ?_ | (refine Duo.mk (by first | omega | exact rfl | decide) ?_; intros) | (refine Duo.mk (Clo.mk (by kernel_rfl)) ?_; intros)))
      have hR : RowsAt vC 6 H' p l := S'.rowsAt (List.mem_cons_of_mem _ (List.mem_cons_self ..))
      refine iteB_i (fun g1 => ?_) (fun g1 => ?_)
      · have g1 := eq_of_beq g1
        refine iteB_i (fun g2 => ?_) (fun g2 => ?_)
        · have hlne : l ≠ [] := by intro h0; subst h0; have := of_decide_eq_true g2; simp at this
          refine gives_i S' (sLives hR rfl (by omega)) ?_
          intro H3 E3 S3
          (repeat (first | (refine Step.go ?_; intros) | refine iteB_t (by decide) ?_ | refine iteB_f (by decide) ?_ | (refine Duo.mk (by first | omega | exact rfl | decide) ?_; intros) | (refine Duo.mk (Clo.mk (by kernel_rfl)) ?_; intros)))
          refine iteB_i (fun g3 => ?_) (fun g3 => ?_)
          · have g3 : livesS l = false := by simpa using g3
            (repeat (first | (refine Step.go ?_; intros) | refine iteB_t (by decide) ?_ | refine iteB_f (by decide) ?_ | (refine Duo.mk (by first | omega | exact rfl | decide) ?_; intros) | (refine Duo.mk (Clo.mk (by kernel_rfl)) ?_; intros)))
            refine gives_i S3 (sMod (hR.ext E3) rfl (by omega)) ?_
            intro H4 E4 S4
            (repeat (first | (refine Step.go ?_; intros) | refine iteB_t (by decide) ?_ | refine iteB_f (by decide) ?_ | (refine Duo.mk (by first | omega | exact rfl | decide) ?_; intros) | (refine Duo.mk (Clo.mk (by kernel_rfl)) ?_; intros)))
            refine iteB_i (fun g4 => ?_) (fun g4 => ?_)
            · have g4 := eq_of_beq g4
              exact fail_post (by unfold kyOne; rw [if_neg hk0, if_neg hc1, if_pos ⟨g1, hlne, g3, g4⟩]) (S4.to (.drop .refl))
            · exact go3 H4 S4 hc1 (fun h => by have h9 := h.2.2.2; rw [h9] at g4; simp at g4)
          · exact go3 H3 S3 hc1 (fun h => by rw [h.2.2.1] at g3; simp at g3)
        · exact go3 H' S' hc1 (fun h => by
            have : l.length ≠ 0 := fun h0 => h.2.1 (List.eq_nil_of_length_eq_zero h0)
            have := of_decide_eq_false g2; omega)
      · exact go3 H' S' hc1 (fun h => by rw [h.1] at g1; simp at g1)
    refine F7.L1_step ?_
    unfold F7.L1n
    refine iteB_i (fun hi0 => ?_) (fun hi0 => ?_)
    · have hi0 : decide (i = 0) = true := by have := eq_of_beq hi0; exact decide_eq_true (by omega)
      refine iteB_i (fun hl0 => ?_) (fun hl0 => ?_)
      · have hl0 : l = [] := List.eq_nil_of_length_eq_zero (by have := eq_of_beq hl0; omega)
        (repeat (first | (refine Step.go ?_; intros) | refine iteB_t (by decide) ?_ | refine iteB_f (by decide) ?_ | (refine Duo.mk (by first | omega | exact rfl | decide) ?_; intros) | (refine Duo.mk (Clo.mk (by kernel_rfl)) ?_; intros)))
        refine iteB_i (fun h1 => ?_) (fun h1 => ?_)
        · have h1 : o.k ≠ 1 := by simpa using h1
          exact fail_post (hno (.inl ⟨hi0, hl0, h1⟩)) (S2.to (.drop .refl))
        · have h1 : o.k = 1 := by simpa using h1
          (repeat (first | (refine Step.go ?_; intros) | refine iteB_t (by decide) ?_ | refine iteB_f (by decide) ?_ | (refine Duo.mk (by first | omega | exact rfl | decide) ?_; intros) | (refine Duo.mk (Clo.mk (by kernel_rfl)) ?_; intros)))
          refine iteB_t (by rw [h1]; rfl) ?_
          (repeat (first | (refine Step.go ?_; intros) | refine iteB_t (by decide) ?_ | refine iteB_f (by decide) ?_ | (refine Duo.mk (by first | omega | exact rfl | decide) ?_; intros) | (refine Duo.mk (Clo.mk (by kernel_rfl)) ?_; intros)))
          refine gives_i S2 (sIx (a := o.rev)) ?_
          intro H3 E3 S3
          (repeat (first | (refine Step.go ?_; intros) | refine iteB_t (by decide) ?_ | refine iteB_f (by decide) ?_ | (refine Duo.mk (by first | omega | exact rfl | decide) ?_; intros) | (refine Duo.mk (Clo.mk (by kernel_rfl)) ?_; intros)))
          refine iteB_i (fun h2 => ?_) (fun h2 => ?_)
          · exact fail_post (hno (.inr ⟨.inl h1, by simpa using h2⟩)) (S3.to (.drop .refl))
          · exact go2 H3 S3 (fun h => h.elim (fun h => h.2.2 h1) (fun h => by have h3 := h.2; rw [h3] at h2; simp at h2))
      have hne : l ≠ [] := by intro h0; subst h0; simp at hl0
      (repeat (first | (refine Step.go ?_; intros) | refine iteB_t (by decide) ?_ | refine iteB_f (by decide) ?_ | (refine Duo.mk (by first | omega | exact rfl | decide) ?_; intros) | (refine Duo.mk (Clo.mk (by kernel_rfl)) ?_; intros)))
      refine iteB_i (fun h1 => ?_) (fun h1 => ?_)
      · have h1 := eq_of_beq h1
        (repeat (first | (refine Step.go ?_; intros) | refine iteB_t (by decide) ?_ | refine iteB_f (by decide) ?_ | (refine Duo.mk (by first | omega | exact rfl | decide) ?_; intros) | (refine Duo.mk (Clo.mk (by kernel_rfl)) ?_; intros)))
        refine gives_i S2 (sIx (a := o.rev)) ?_
        intro H3 E3 S3
        (repeat (first | (refine Step.go ?_; intros) | refine iteB_t (by decide) ?_ | refine iteB_f (by decide) ?_ | (refine Duo.mk (by first | omega | exact rfl | decide) ?_; intros) | (refine Duo.mk (Clo.mk (by kernel_rfl)) ?_; intros)))
        refine iteB_i (fun h2 => ?_) (fun h2 => ?_)
        · exact fail_post (hno (.inr ⟨.inl h1, by simpa using h2⟩)) (S3.to (.drop .refl))
        · exact go2 H3 S3 (fun h => h.elim (fun h => hne h.2.1) (fun h => by have h3 := h.2; rw [h3] at h2; simp at h2))
      · have h1 : ¬ o.k = 1 := by simpa using h1
        (repeat (first | (refine Step.go ?_; intros) | refine iteB_t (by decide) ?_ | refine iteB_f (by decide) ?_ | (refine Duo.mk (by first | omega | exact rfl | decide) ?_; intros) | (refine Duo.mk (Clo.mk (by kernel_rfl)) ?_; intros)))
        refine iteB_i (fun h4 => ?_) (fun h4 => ?_)
        · have h4 := eq_of_beq h4
          (repeat (first | (refine Step.go ?_; intros) | refine iteB_t (by decide) ?_ | refine iteB_f (by decide) ?_ | (refine Duo.mk (by first | omega | exact rfl | decide) ?_; intros) | (refine Duo.mk (Clo.mk (by kernel_rfl)) ?_; intros)))
          refine gives_i S2 (sIx (a := o.rev)) ?_
          intro H3 E3 S3
          (repeat (first | (refine Step.go ?_; intros) | refine iteB_t (by decide) ?_ | refine iteB_f (by decide) ?_ | (refine Duo.mk (by first | omega | exact rfl | decide) ?_; intros) | (refine Duo.mk (Clo.mk (by kernel_rfl)) ?_; intros)))
          refine iteB_i (fun h2 => ?_) (fun h2 => ?_)
          · exact fail_post (hno (.inr ⟨.inr h4, by simpa using h2⟩)) (S3.to (.drop .refl))
          · exact go2 H3 S3 (fun h => h.elim (fun h => hne h.2.1) (fun h => by have h3 := h.2; rw [h3] at h2; simp at h2))
        · have h4 : ¬ o.k = 2 := by simpa using h4
          exact go2 H2 S2 (fun h => h.elim (fun h => hne h.2.1) (fun h => h.1.elim h1 h4))

    have hif : ¬ decide (i = 0) = true := by intro h; have := of_decide_eq_true h; rw [this] at hi0; simp at hi0
    (repeat (first | (refine Step.go ?_; intros) | refine iteB_t (by decide) ?_ | refine iteB_f (by decide) ?_ | (refine Duo.mk (by first | omega | exact rfl | decide) ?_; intros) | (refine Duo.mk (Clo.mk (by kernel_rfl)) ?_; intros)))
    refine iteB_i (fun h1 => ?_) (fun h1 => ?_)
    · have h1 := eq_of_beq h1
      (repeat (first | (refine Step.go ?_; intros) | refine iteB_t (by decide) ?_ | refine iteB_f (by decide) ?_ | (refine Duo.mk (by first | omega | exact rfl | decide) ?_; intros) | (refine Duo.mk (Clo.mk (by kernel_rfl)) ?_; intros)))
      refine gives_i S2 (sIx (a := o.rev)) ?_
      intro H3 E3 S3
      (repeat (first | (refine Step.go ?_; intros) | refine iteB_t (by decide) ?_ | refine iteB_f (by decide) ?_ | (refine Duo.mk (by first | omega | exact rfl | decide) ?_; intros) | (refine Duo.mk (Clo.mk (by kernel_rfl)) ?_; intros)))
      refine iteB_i (fun h2 => ?_) (fun h2 => ?_)
      · exact fail_post (hno (.inr ⟨.inl h1, by simpa using h2⟩)) (S3.to (.drop .refl))
      · exact go2 H3 S3 (fun h => h.elim (fun h => hif h.1) (fun h => by have h3 := h.2; rw [h3] at h2; simp at h2))
    · have h1 : ¬ o.k = 1 := by simpa using h1
      (repeat (first | (refine Step.go ?_; intros) | refine iteB_t (by decide) ?_ | refine iteB_f (by decide) ?_ | (refine Duo.mk (by first | omega | exact rfl | decide) ?_; intros) | (refine Duo.mk (Clo.mk (by kernel_rfl)) ?_; intros)))
      refine iteB_i (fun h4 => ?_) (fun h4 => ?_)
      · have h4 := eq_of_beq h4
        (repeat (first | (refine Step.go ?_; intros) | refine iteB_t (by decide) ?_ | refine iteB_f (by decide) ?_ | (refine Duo.mk (by first | omega | exact rfl | decide) ?_; intros) | (refine Duo.mk (Clo.mk (by kernel_rfl)) ?_; intros)))
        refine gives_i S2 (sIx (a := o.rev)) ?_
        intro H3 E3 S3
        (repeat (first | (refine Step.go ?_; intros) | refine iteB_t (by decide) ?_ | refine iteB_f (by decide) ?_ | (refine Duo.mk (by first | omega | exact rfl | decide) ?_; intros) | (refine Duo.mk (Clo.mk (by kernel_rfl)) ?_; intros)))
        refine iteB_i (fun h2 => ?_) (fun h2 => ?_)
        · exact fail_post (hno (.inr ⟨.inr h4, by simpa using h2⟩)) (S3.to (.drop .refl))
        · exact go2 H3 S3 (fun h => h.elim (fun h => hif h.1) (fun h => by have h3 := h.2; rw [h3] at h2; simp at h2))
      · have h4 : ¬ o.k = 2 := by simpa using h4
        exact go2 H2 S2 (fun h => h.elim (fun h => hif h.1) (fun h => h.1.elim h1 h4))

end
end Go.Proofs.Ytpjnmdeeoafclaa

set_option linter.unusedVariables false
set_option linter.unnecessarySimpa false
set_option linter.unusedSimpArgs false
namespace Go.Proofs.Ytpjnmdeeoafclaa
open Go Go.Den Go.Proofs
/-! Answers that say the same. -/
theorem all2 {a b : Int} : ([a == a, b == b].all id) = true := by simp
theorem same_revs_loop {H : Heap} {p q : Option Addr} {n c d : Nat} {rs : List Rv} [R0 : RowsC H p rvC 2 rs] [R1 : RowsC H q rvC 2 rs] (hl : rs.length = n) (hn : n < 1000000) : ∀ (k i : Nat), i + k = n →
    F50.L0 p n c q n d (n : Int) (i : Int) H (Gives (.bool true) H) := by
  intro k
  have S := Sat.start H
  induction k with
  | zero =>
    intro i hi
    refine F50.L0_step ?_
    unfold F50.L0n
    refine iteB_f (by rw [decide_eq_false_iff_not]; omega) ?_
    exact ⟨rfl, ExtH.refl H⟩
  | succ k ih =>
    intro i hi
    obtain ⟨x, hx⟩ := get_of (l := rs) (i := i) (by omega)
    have A1 : HasI rs (i : Int) x := ⟨by simpa using hx⟩
    have w1 : IntKind.wrap .i64 ((i : Int) + 1) = ((i + 1 : Nat) : Int) := by rw [wr (by omega) (by omega)]; omega
    refine F50.L0_step ?_
    unfold F50.L0n
    refine iteB_t (by rw [decide_eq_true_iff]; omega) ?_
    refine R0.idx hl ⟨by omega, by omega, ?_⟩
    rintro a rfl
    refine R1.idx hl ⟨by omega, by omega, ?_⟩
    rintro b rfl
    (repeat (first | (refine Step.go ?_; intros) | refine iteB_t (by decide) ?_ | refine iteB_f (by decide) ?_ | (refine Duo.mk (by first | omega | exact rfl | decide) ?_; intros) | (refine Duo.mk (Clo.mk (by kernel_rfl)) ?_; intros)))
    refine eqT31 ?_
    rw [all2]
    refine iteB_f rfl ?_
    rw [w1]
    exact ih (i + 1) (by omega)
theorem same_revs {H : Heap} {p q : Option Addr} {n c d : Nat} {rs : List Rv} (h1 : RowsAt rvC 2 H p rs) (h2 : RowsAt rvC 2 H q rs) (hl : rs.length = n) (hn : n < 1000000) : CallsH Try.prog 50 ⟨[.slice p n c, .slice q n d]⟩ H (Gives (.bool true) H) := by
  have R0 : RowsC H p rvC 2 rs := ⟨h1⟩
  have R1 : RowsC H q rvC 2 rs := ⟨h2⟩
  refine F50.calls ?_
  unfold F50.go
  refine iteB_f (by simp) ?_
  exact same_revs_loop hl hn n 0 (by omega)
theorem same_dump_loop {H0 : Heap} {p q : Option Addr} {n c d : Nat} {X Y : List GX} {md : Rv} [R0 : RowsC H0 p GS.cells 4 (X.map (·.1))] [R1 : RowsC H0 q GS.cells 4 (Y.map (·.1))] (hX : GsAt H0 p X) (hY : GsAt H0 q Y) (he : X.map gx = Y.map gx) (hl : X.length = n) (hn : n < 1000000) (hr : ∀ x ∈ X, x.2.length < 1000000) {b : Nat} : ∀ (k i : Nat) (H : Heap), i + k = n →
    Sat H [pt b (.cells ⟨[.int .i64 md.1, .int .i64 md.2, .slice q n d]⟩ 34), old H0] →
    F51.L1 b p n c (n : Int) (i : Int) H (Gives (.bool true) H0) := by
  intro k
  have hl2 : Y.length = n := by have := congrArg List.length he; simp at this; omega
  induction k with
  | zero =>
    intro i H hi S
    refine F51.L1_step ?_
    unfold F51.L1n
    refine iteB_f (by rw [decide_eq_false_iff_not]; omega) ?_
    exact ⟨rfl, Sat.grown⟩
  | succ k ih =>
    intro i H hi S
    obtain ⟨⟨⟨v1, r1, p1, n1, c1⟩, rs⟩, hx⟩ := get_of (l := X) (i := i) (by omega)
    obtain ⟨⟨⟨v2, r2, p2, n2, c2⟩, rs2⟩, hy⟩ := get_of (l := Y) (i := i) (by omega)
    have hg : gx (⟨v1, r1, p1, n1, c1⟩, rs) = gx (⟨v2, r2, p2, n2, c2⟩, rs2) := by
      have := congrArg (fun z => z[i]?) he
      simp only [List.getElem?_map, hx, hy, Option.map_some, Option.some.injEq] at this
      exact this
    simp only [gx, Prod.mk.injEq] at hg
    obtain ⟨rfl, rfl, rfl⟩ := hg
    obtain ⟨a1, a2⟩ := hX.revs _ (List.mem_of_getElem? hx)
    obtain ⟨b1, b2⟩ := hY.revs _ (List.mem_of_getElem? hy)
    have hrs := hr _ (List.mem_of_getElem? hx)
    replace a1 : rs.length = n1 := a1
    replace b1 : rs.length = n2 := b1
    replace hrs : rs.length < 1000000 := hrs
    obtain rfl : n1 = n2 := by omega
    have A1 : HasI (X.map (·.1)) (i : Int) ⟨v1, r1, p1, n1, c1⟩ := hasX hx
    have A2 : HasI (Y.map (·.1)) (i : Int) ⟨v1, r1, p2, n1, c2⟩ := hasX hy
    have w1 : IntKind.wrap .i64 ((i : Int) + 1) = ((i + 1 : Nat) : Int) := by rw [wr (by omega) (by omega)]; omega
    refine F51.L1_step ?_
    unfold F51.L1n
    refine iteB_t (by rw [decide_eq_true_iff]; omega) ?_
    refine R0.idx (by rw [List.length_map]; exact hl) ⟨by omega, by omega, ?_⟩
    rintro a rfl
    (repeat (first | (refine Step.go ?_; intros) | refine iteB_t (by decide) ?_ | refine iteB_f (by decide) ?_ | (refine Duo.mk (by first | omega | exact rfl | decide) ?_; intros) | (refine Duo.mk (Clo.mk (by kernel_rfl)) ?_; intros)))
    refine R1.idx (by rw [List.length_map]; exact hl2) ⟨by omega, by omega, ?_⟩
    rintro a' rfl
    (repeat (first | (refine Step.go ?_; intros) | refine iteB_t (by decide) ?_ | refine iteB_f (by decide) ?_ | (refine Duo.mk (by first | omega | exact rfl | decide) ?_; intros) | (refine Duo.mk (Clo.mk (by kernel_rfl)) ?_; intros)))
    refine iteB_f (by simp) ?_
    (repeat (first | (refine Step.go ?_; intros) | refine iteB_t (by decide) ?_ | refine iteB_f (by decide) ?_ | (refine Duo.mk (by first | omega | exact rfl | decide) ?_; intros) | (refine Duo.mk (Clo.mk (by kernel_rfl)) ?_; intros)))
    refine eqT31 ?_
    rw [all2]
    refine iteB_f rfl ?_
    (repeat (first | (refine Step.go ?_; intros) | refine iteB_t (by decide) ?_ | refine iteB_f (by decide) ?_ | (refine Duo.mk (by first | omega | exact rfl | decide) ?_; intros) | (refine Duo.mk (Clo.mk (by kernel_rfl)) ?_; intros)))
    rename_i H3 S3
    have E3 : ExtH H0 H3 := Sat.grown
    refine gives_i S3 (same_revs (a2.ext E3) (b2.ext E3) a1 (by dsimp only; omega)) ?_
    intro H4 E4 S4
    (repeat (first | (refine Step.go ?_; intros) | refine iteB_t (by decide) ?_ | refine iteB_f (by decide) ?_ | (refine Duo.mk (by first | omega | exact rfl | decide) ?_; intros) | (refine Duo.mk (Clo.mk (by kernel_rfl)) ?_; intros)))
    refine F51.L2_step ?_
    unfold F51.L2n
    rw [w1]
    exact ih (i + 1) H4 (by omega) (S4.to Fits.out)
theorem same_dump {H : Heap} {p q : Option Addr} {n c d : Nat} {X Y : List GX} {md : Rv} (hX : GsAt H p X) (hY : GsAt H q Y) (he : X.map gx = Y.map gx) (hl : X.length = n) (hn : n < 1000000) (hr : ∀ x ∈ X, x.2.length < 1000000) :
    CallsH Try.prog 51 ⟨[.agg ⟨[.int .i64 md.1, .int .i64 md.2, .slice p n c]⟩, .agg ⟨[.int .i64 md.1, .int .i64 md.2, .slice q n d]⟩]⟩ H (Gives (.bool true) H) := by
  have R0 : RowsC H p GS.cells 4 (X.map (·.1)) := ⟨hX.rows⟩
  have R1 : RowsC H q GS.cells 4 (Y.map (·.1)) := ⟨hY.rows⟩
  have S := Sat.start H
  refine F51.calls ?_
  unfold F51.go
  (repeat (first | (refine Step.go ?_; intros) | refine iteB_t (by decide) ?_ | refine iteB_f (by decide) ?_ | (refine Duo.mk (by first | omega | exact rfl | decide) ?_; intros) | (refine Duo.mk (Clo.mk (by kernel_rfl)) ?_; intros)))
  refine eqT31 ?_
  rw [all2]
  refine iteB_f rfl ?_
  (repeat (first | (refine Step.go ?_; intros) | refine iteB_t (by decide) ?_ | refine iteB_f (by decide) ?_ | (refine Duo.mk (by first | omega | exact rfl | decide) ?_; intros) | (refine Duo.mk (Clo.mk (by kernel_rfl)) ?_; intros)))
  refine iteB_f (by simp) ?_
  rename_i H1 S1
  refine F51.L0_step ?_
  unfold F51.L0n
  (repeat (first | (refine Step.go ?_; intros) | refine iteB_t (by decide) ?_ | refine iteB_f (by decide) ?_ | (refine Duo.mk (by first | omega | exact rfl | decide) ?_; intros) | (refine Duo.mk (Clo.mk (by kernel_rfl)) ?_; intros)))
  exact same_dump_loop (md := md) (d := d) hX hY he hl hn hr n 0 H1 (by omega) (S1.to Fits.out)
/-- An answer's slices in memory. -/
structure KaAt (H : Heap) (x : KA) : Prop where
  revs : RowsAt rvC 2 H x.rp x.revs
  gens : GsAt H x.gp x.X
theorem KaAt.ext {H H1 : Heap} {x : KA} (h : KaAt H x) (e : ExtH H H1) : KaAt H1 x := ⟨h.revs.ext e, h.gens.ext e⟩
theorem same_ans {H : Heap} {x y : KA} (hx : KaAt H x) (hy : KaAt H y) (he : x.an = y.an) (h1 : x.revs.length < 1000000) (h2 : x.X.length < 1000000) (h3 : ∀ z ∈ x.X, z.2.length < 1000000) : CallsH Try.prog 23 ⟨[.agg ⟨x.cells⟩, .agg ⟨y.cells⟩]⟩ H (Gives (.bool true) H) := by
  obtain ⟨ok, mod, cr, ver, revs, rp, rc, md, gp, gc, X⟩ := x
  obtain ⟨ok', mod', cr', ver', revs', rp', rc', md', gp', gc', Y⟩ := y
  simp only [KA.an, An.mk.injEq] at he
  obtain ⟨rfl, rfl, rfl, rfl, rfl, rfl, he⟩ := he
  have hXY : Y.length = X.length := by have := congrArg List.length he; simp at this; omega
  have S := Sat.start H
  refine F23.calls ?_
  unfold F23.go
  (repeat (first | (refine Step.go ?_; intros) | refine iteB_t (by decide) ?_ | refine iteB_f (by decide) ?_ | (refine Duo.mk (by first | omega | exact rfl | decide) ?_; intros) | (refine Duo.mk (Clo.mk (by kernel_rfl)) ?_; intros)))
  refine iteB_t (by simp) ?_
  (repeat (first | (refine Step.go ?_; intros) | refine iteB_t (by decide) ?_ | refine iteB_f (by decide) ?_ | (refine Duo.mk (by first | omega | exact rfl | decide) ?_; intros) | (refine Duo.mk (Clo.mk (by kernel_rfl)) ?_; intros)))
  refine eqT31 ?_
  rw [all2]
  refine iteB_t rfl ?_
  (repeat (first | (refine Step.go ?_; intros) | refine iteB_t (by decide) ?_ | refine iteB_f (by decide) ?_ | (refine Duo.mk (by first | omega | exact rfl | decide) ?_; intros) | (refine Duo.mk (Clo.mk (by kernel_rfl)) ?_; intros)))
  refine eqT31 ?_
  rw [all2]
  refine iteB_t rfl ?_
  (repeat (first | (refine Step.go ?_; intros) | refine iteB_t (by decide) ?_ | refine iteB_f (by decide) ?_ | (refine Duo.mk (by first | omega | exact rfl | decide) ?_; intros) | (refine Duo.mk (Clo.mk (by kernel_rfl)) ?_; intros)))
  refine iteB_t (by simp) ?_
  (repeat (first | (refine Step.go ?_; intros) | refine iteB_t (by decide) ?_ | refine iteB_f (by decide) ?_ | (refine Duo.mk (by first | omega | exact rfl | decide) ?_; intros) | (refine Duo.mk (Clo.mk (by kernel_rfl)) ?_; intros)))
  rename_i H1 S1
  have E1 : ExtH H H1 := Sat.grown
  refine gives_i S1 (same_revs (hx.revs.ext E1) (hy.revs.ext E1) rfl h1) ?_
  intro H2 E2 S2
  (repeat (first | (refine Step.go ?_; intros) | refine iteB_t (by decide) ?_ | refine iteB_f (by decide) ?_ | (refine Duo.mk (by first | omega | exact rfl | decide) ?_; intros) | (refine Duo.mk (Clo.mk (by kernel_rfl)) ?_; intros)))
  dsimp only
  rw [hXY]
  refine gives_i S2 (same_dump ((hx.gens.ext E1).ext E2) ((hy.gens.ext E1).ext E2) he rfl h2 h3) ?_
  intro H3 E3 S3
  (repeat (first | (refine Step.go ?_; intros) | refine iteB_t (by decide) ?_ | refine iteB_f (by decide) ?_ | (refine Duo.mk (by first | omega | exact rfl | decide) ?_; intros) | (refine Duo.mk (Clo.mk (by kernel_rfl)) ?_; intros)))
  exact ⟨rfl, Sat.grown⟩
end Go.Proofs.Ytpjnmdeeoafclaa

set_option linter.unusedVariables false
set_option linter.unnecessarySimpa false
set_option linter.unusedSimpArgs false
namespace Go.Proofs.Ytpjnmdeeoafclaa
open Go Go.Den Go.Proofs
/-! Runs. -/
theorem sinceS_len {t : Int} : ∀ {rs : List Rv}, (sinceS t rs).length ≤ rs.length := by
  intro rs
  induction rs with
  | nil => exact Nat.le_refl _
  | cons x r ih =>
    cases r with
    | nil => show (if x.1 ≥ t then [x] else []).length ≤ _; split <;> simp
    | cons y r =>
      show (if x.1 ≥ t ∧ y.1 ≠ x.1 then x :: sinceS t (y :: r) else sinceS t (y :: r)).length ≤ _
      split
      · simp only [List.length_cons] at ih ⊢; omega
      · simp only [List.length_cons] at ih ⊢; omega
theorem keptS_len {t : Int} {b : Bool} {l : List Vs} : (keptS t b l).length ≤ 1 := by
  unfold keptS
  split
  · simp
  · rw [List.length_map]
    refine Nat.le_trans (List.length_filter_le _ _) ?_
    rename_i j _
    cases l[j]? <;> simp
theorem kyOne_revs {l m : List Vs} {f : Bool} {o : KO} {a : An} (h : kyOne l f o = some (m, a)) : a.revs.length ≤ l.length + 1 := by
  unfold kyOne at h
  split at h
  · cases h
  split at h
  · cases h
  split at h
  · cases h
  have hb : ∀ m b, kyDo l o = some (m, b) → b.revs.length ≤ l.length + 1 := by
    intro m b hb
    unfold kyDo at hb
    split at hb
    · split at hb <;> cases hb; simp
    split at hb
    · split at hb
      · split at hb <;> cases hb; simp
      · cases hb; simp
    split at hb
    · cases hb; split <;> simp
    split at hb
    · cases hb
      have := sinceS_len (t := o.t) (rs := l.map (·.rev))
      rw [List.length_map] at this
      dsimp only; omega
    split at hb
    · cases hb
      have := keptS_len (t := o.t) (b := true) (l := l)
      dsimp only; omega
    split at hb
    · cases hb
      have := keptS_len (t := o.t) (b := false) (l := l)
      dsimp only; omega
    · cases hb; simp
  cases hd : kyDo l o with
  | none => rw [hd] at h; cases h
  | some mb =>
    obtain ⟨m', b⟩ := mb
    rw [hd] at h
    dsimp only at h
    split at h
    · cases h
    · cases h
      exact hb _ b hd
def Small (a : An) : Prop := a.revs.length < 1000000 ∧ a.G.length < 1000000 ∧ ∀ g ∈ a.G, g.2.2.length < 1000000
theorem Inv.vlen {md : Rv} {G : List Gn} {N : Nat} (I : Inv md G N) : (versG G).length ≤ N := by rw [versG_len]; exact I.len
theorem run_law : ∀ {os : List KO} {md : Rv} {G : List Gn} {N : Nat} {f : Bool} {l' : List Vs} {aa : List An}, Inv md G N → N + os.length < 900 → kyRun (versG G) f os = some (l', aa) →
    KPres md G os ∧ krun md G os = aa ∧ (∀ a ∈ aa, Small a) ∧ ∃ md' G', Inv md' G' (N + os.length) ∧ versG G' = l' := by
  intro os
  induction os with
  | nil =>
    intro md G N f l' aa I hN h
    cases h
    exact ⟨trivial, rfl, (by simp), md, G, I, rfl⟩
  | cons o os ih =>
    intro md G N f l' aa I hN h
    simp only [List.length_cons] at hN
    unfold kyRun at h
    cases h1 : kyOne (versG G) f o with
    | none => rw [h1] at h; cases h
    | some ma =>
      obtain ⟨m, a⟩ := ma
      rw [h1] at h
      dsimp only at h
      obtain ⟨s1, s2, s3, s4⟩ := step_law I (by omega) h1
      rw [← s4] at h
      cases h2 : kyRun (versG a.G) false os with
      | none => rw [h2] at h; cases h
      | some lb =>
        obtain ⟨l2, bb⟩ := lb
        rw [h2] at h
        cases h
        obtain ⟨r1, r2, r3, md', G', r4, r5⟩ := ih s3 (by omega) h2
        refine ⟨⟨s1, by rw [s2]; exact r1⟩, by unfold krun; rw [s2, r2], fun b hb => ?_, md', G', by simp only [List.length_cons]; exact r4.mono (by omega), r5⟩
        rcases List.mem_cons.1 hb with rfl | hb
        · have hv := I.vlen
          have hr := kyOne_revs h1
          have hg := s3.gok (by omega)
          exact ⟨by omega, by have := hg.1; omega, fun g hgm => by have := (hg.2 g hgm).2; omega⟩
        · exact r3 b hb
theorem start_law {o : KO} {m : List Vs} {a : An} (h : kyOne [] true o = some (m, a)) : KPre (0, 0) [] o ∧ kop (0, 0) [] o = a ∧ Inv a.md a.G 1 ∧ versG a.G = m := by
  unfold kyOne at h
  split at h
  · cases h
  rename_i hk
  split at h
  · cases h
  rename_i hf
  have h1 : o.k = 1 := by
    by_cases h1 : o.k = 1
    · exact h1
    · exact absurd (.inl ⟨rfl, rfl, h1⟩) hf
  have hr : 1 ≤ o.rev.1 ∧ 0 ≤ o.rev.2 := by
    have : ¬ ixRev o.rev = false := fun h9 => hf (.inr ⟨.inl h1, h9⟩)
    unfold ixRev at this
    simpa using this
  split at h
  · cases h
  unfold kyDo at h
  rw [if_pos h1] at h
  have e0 : modS ([] : List Vs) = (0, 0) := rfl
  rw [e0] at h
  by_cases hg : gtB o.rev (0, 0) = true
  · rw [if_pos hg] at h
    have ew : writtenS [] o.rev = [⟨o.rev, o.rev, 1, false⟩] := rfl
    rw [ew] at h
    dsimp only at h
    rw [if_neg (by simp)] at h
    have ed : dumpG [⟨o.rev, o.rev, 1, false⟩] = [(1, o.rev, [o.rev])] := by simp [dumpG, livesS, dStep, g0]
    have em : modS [⟨o.rev, o.rev, 1, false⟩] = o.rev := rfl
    rw [ed, em] at h
    cases h
    have ek : kop (0, 0) [] o = ⟨true, z0, z0, 0, [], o.rev, [(1, o.rev, [o.rev])]⟩ := by unfold kop; rw [if_pos h1]; rfl
    have ev : versG [(1, o.rev, [o.rev])] = [⟨o.rev, o.rev, 1, false⟩] := by simp [versG, lifeV]
    refine ⟨⟨⟨by simp, by simp⟩, by rw [ek]; exact ⟨by simp, by intro x hx; simp at hx; subst hx; simp⟩, fun _ => hg, fun h => by omega, fun h => by omega, fun h => by omega⟩, ek, ?_, ev⟩
    refine ⟨by simp, ?_, ?_, ?_, ?_, by rw [ev]; simp, by rw [ev]; rfl, by simp, by simp, ?_⟩
    · show ([o.rev] : List Rv).Pairwise _; simp
    · intro g hg' h0; simp at hg'; subst hg'; simp at h0
    · intro g hg' x hx; simp at hg'; subst hg'; simp at hx; subst hx; exact hr
    · intro i g hg'; simp at hg'
    · intro g hg'; simp at hg'; subst hg'; simp
  · rw [if_neg hg] at h; cases h
theorem run_start {os : List KO} {l' : List Vs} {aa : List An} (hN : os.length < 800) (h : kyRun [] true os = some (l', aa)) : KPres (0, 0) [] os ∧ krun (0, 0) [] os = aa ∧ (∀ a ∈ aa, Small a) ∧ (l' = [] ∨ ∃ md' G', Inv md' G' (1 + os.length) ∧ versG G' = l') := by
  cases os with
  | nil => cases h; exact ⟨trivial, rfl, (by simp), .inl rfl⟩
  | cons o os =>
    simp only [List.length_cons] at hN
    unfold kyRun at h
    cases h1 : kyOne [] true o with
    | none => rw [h1] at h; cases h
    | some ma =>
      obtain ⟨m, a⟩ := ma
      rw [h1] at h
      dsimp only at h
      obtain ⟨s1, s2, s3, s4⟩ := start_law h1
      rw [← s4] at h
      cases h2 : kyRun (versG a.G) false os with
      | none => rw [h2] at h; cases h
      | some lb =>
        obtain ⟨l2, bb⟩ := lb
        rw [h2] at h
        cases h
        obtain ⟨r1, r2, r3, md', G', r4, r5⟩ := run_law s3 (by omega) h2
        refine ⟨⟨s1, by rw [s2]; exact r1⟩, by unfold krun; rw [s2, r2], fun b hb => ?_, .inr ⟨md', G', by simp only [List.length_cons]; exact r4.mono (by omega), r5⟩⟩
        rcases List.mem_cons.1 hb with rfl | hb
        · have hr := kyOne_revs h1
          have hg := s3.gok (by omega)
          simp at hr
          exact ⟨by omega, by have := hg.1; omega, fun g hgm => by have := (hg.2 g hgm).2; omega⟩
        · exact r3 b hb
theorem lifeV_ver {g : Gn} {e : Bool} {v : Vs} (h : v ∈ lifeV g e) : ∃ j : Nat, j < g.2.2.length ∧ v.ver = g.1 - (g.2.2.length - j - 1) := by
  obtain ⟨j, hj⟩ := List.getElem?_of_mem h
  have hl := (List.getElem?_eq_some_iff.1 hj).1
  rw [lifeV_len] at hl
  rw [lifeV_get, List.getElem?_eq_getElem hl] at hj
  simp only [Option.map_some, Option.some.injEq] at hj
  exact ⟨j, hl, by rw [← hj]⟩
theorem versG_ver : ∀ {G : List Gn} {v : Vs}, v ∈ versG G → ∃ g ∈ G, ∃ j : Nat, j < g.2.2.length ∧ v.ver = g.1 - (g.2.2.length - j - 1) := by
  intro G
  induction G with
  | nil => intro v h; cases h
  | cons g G ih =>
    intro v h
    cases G with
    | nil => exact ⟨g, List.mem_cons_self .., lifeV_ver h⟩
    | cons h' r =>
      rcases List.mem_append.1 h with h | h
      · exact ⟨g, List.mem_cons_self .., lifeV_ver h⟩
      · obtain ⟨k, hk, hv⟩ := ih h
        exact ⟨k, List.mem_cons_of_mem _ hk, hv⟩
def LifeP (l : List Vs) (i : Nat) : Prop := (l = [] ∧ i = 0) ∨ ∃ md G, Inv md G (i + 1) ∧ versG G = l
theorem lifeP_ok {l : List Vs} {i : Nat} (hi : i ≤ 300) (h : LifeP l i) : Mains l ∧ (∀ v ∈ l, -1000000 ≤ v.ver ∧ v.ver < 1000000) ∧ l.length < 100000 := by
  rcases h with ⟨rfl, _⟩ | ⟨md, G, I, rfl⟩
  · exact ⟨List.Pairwise.nil, (by simp), by simp⟩
  · refine ⟨?_, fun v hv => ?_, by have := I.vlen; omega⟩
    · unfold Mains; rw [versG_map]; exact (lives_pair I.lives).1
    · obtain ⟨g, hg, j, h1, h2⟩ := versG_ver hv
      have := I.ver g hg
      have hgok := (I.gok (by omega)).2 g hg
      omega
theorem lifeP_step {l : List Vs} {i : Nat} {o : KO} {m : List Vs} {a : An} (hi : i < 300) (h : LifeP l i) (h1 : kyOne l (decide (i = 0)) o = some (m, a)) : LifeP m (i + 1) := by
  rcases h with ⟨rfl, rfl⟩ | ⟨md, G, I, rfl⟩
  · obtain ⟨_, _, s3, s4⟩ := start_law h1
    exact .inr ⟨_, _, s3.mono (by omega), s4⟩
  · obtain ⟨_, _, s3, s4⟩ := step_law I (by omega) h1
    exact .inr ⟨_, _, s3, s4⟩
end Go.Proofs.Ytpjnmdeeoafclaa

set_option linter.unusedVariables false
set_option linter.unnecessarySimpa false
set_option linter.unusedSimpArgs false
namespace Go.Proofs.Ytpjnmdeeoafclaa
open Go Go.Den Go.Proofs
/-! FnKeyAnswers. -/
def kyLife (ops : List KO) : Option (List Vs × List An) := if ops.length > 300 then none else kyRun [] true ops
section
variable {H0 : Heap} {L : List HP} {s : Option Addr} {sc : Nat} {ops : List KO}
theorem life_ok [O : OldAt L H0] [R0 : RowsC H0 s KO.cells 7 ops] {H : Heap} (S : Sat H L) : CallsH Try.prog 7 ⟨[.slice none 0 0, .slice s ops.length sc]⟩ H (fun e H1 => match kyLife ops with
    | none => e = .returned failV ∧ Sat H1 L
    | some (l', aa) => ∃ p' c' q k xs, e = .returned (.tuple ⟨[.slice p' l'.length c', .slice q xs.length k, .bool true]⟩) ∧ xs.map KA.an = aa ∧ Sat H1 (sl vC 46 6 p' l'.length c' l' :: kaL q xs.length k xs L)) := by
  refine F7.calls ?_
  unfold F7.go
  refine iteB_i (fun h => ?_) (fun h => ?_)
  · have h := of_decide_eq_true h
    have e : kyLife ops = none := by unfold kyLife; rw [if_pos (by omega)]
    rw [e]
    exact ⟨rfl, S⟩
  · have h := of_decide_eq_false h
    have e : kyLife ops = kyRun [] true ops := by unfold kyLife; rw [if_neg (by omega)]
    rw [e]
    have S1 : Sat H (star (bigs kaP 0 []) :: L) := S.to (.star (by simp only [bigs, List.nil_append]; exact .refl))
    have S2 : Sat H (lst none 0 [] none 0 [] L) := S1.to (.slNil (.slNil .refl))
    refine GoL.mono (life_loop (P := fun l i => LifeP l i ∧ i ≤ 300) (by omega) (fun l i h => lifeP_ok h.2 h.1) (fun l i o m a hi hp h1 => ⟨lifeP_step hi hp.1 h1, by omega⟩) ops.length 0 [] none none 0 0 [] H (by omega) rfl ⟨.inl ⟨rfl, rfl⟩, by omega⟩ S2) ?_
    intro e H1 h1
    unfold lifePost at h1
    rw [List.drop_zero] at h1
    exact h1
theorem alike_loop {p q : Option Addr} {n c d : Nat} {xs ys : List KA} [R1 : RowsC H0 p KA.cells 10 xs] [R2 : RowsC H0 q KA.cells 10 ys] (hx : ∀ x ∈ xs, KaAt H0 x) (hy : ∀ x ∈ ys, KaAt H0 x) (he : xs.map KA.an = ys.map KA.an) (hs : ∀ x ∈ xs, Small x.an) (hl : xs.length = n) (hn : n < 1000000) : ∀ (k i : Nat) (H : Heap), i + k = n → ExtH H0 H →
    F10.L0 p n c q n d (n : Int) (i : Int) H (Gives (.bool true) H0) := by
  have hl2 : ys.length = n := by have := congrArg List.length he; simp at this; omega
  intro k
  induction k with
  | zero =>
    intro i H hi E
    refine F10.L0_step ?_
    unfold F10.L0n
    refine iteB_f (by rw [decide_eq_false_iff_not]; omega) ?_
    exact ⟨rfl, E⟩
  | succ k ih =>
    intro i H hi E
    obtain ⟨x, hxi⟩ := get_of (l := xs) (i := i) (by omega)
    obtain ⟨y, hyi⟩ := get_of (l := ys) (i := i) (by omega)
    have hg : x.an = y.an := by
      have := congrArg (fun z => z[i]?) he
      simp only [List.getElem?_map, hxi, hyi, Option.map_some, Option.some.injEq] at this
      exact this
    have mx := List.mem_of_getElem? hxi
    have my := List.mem_of_getElem? hyi
    have hsm := hs x mx
    have S := Sat.start H
    have R1' : RowsC H p KA.cells 10 xs := ⟨R1.out.ext E⟩
    have R2' : RowsC H q KA.cells 10 ys := ⟨R2.out.ext E⟩
    have A1 : HasI xs (i : Int) x := ⟨by simpa using hxi⟩
    have A2 : HasI ys (i : Int) y := ⟨by simpa using hyi⟩
    have w1 : IntKind.wrap .i64 ((i : Int) + 1) = ((i + 1 : Nat) : Int) := by rw [wr (by omega) (by omega)]; omega
    refine F10.L0_step ?_
    unfold F10.L0n
    refine iteB_t (by rw [decide_eq_true_iff]; omega) ?_
    refine R1'.idx hl ⟨by omega, by omega, ?_⟩
    rintro a rfl
    refine R2'.idx hl2 ⟨by omega, by omega, ?_⟩
    rintro b rfl
    (repeat (first | (refine Step.go ?_; intros) | refine iteB_t (by decide) ?_ | refine iteB_f (by decide) ?_ | (refine Duo.mk (by first | omega | exact rfl | decide) ?_; intros) | (refine Duo.mk (Clo.mk (by kernel_rfl)) ?_; intros)))
    refine gives_i S (same_ans ((hx x mx).ext E) ((hy y my).ext E) hg hsm.1 (by have := hsm.2.1; simpa [KA.an] using this) (fun z hz => hsm.2.2 (gx z) (List.mem_map_of_mem hz))) ?_
    intro H1 E1 S1
    (repeat (first | (refine Step.go ?_; intros) | refine iteB_t (by decide) ?_ | refine iteB_f (by decide) ?_ | (refine Duo.mk (by first | omega | exact rfl | decide) ?_; intros) | (refine Duo.mk (Clo.mk (by kernel_rfl)) ?_; intros)))
    rw [w1]
    exact ih (i + 1) H1 (by omega) (E.trans E1)
theorem alike_ok {H : Heap} {p q : Option Addr} {n c d : Nat} {xs ys : List KA} (h1 : RowsAt KA.cells 10 H p xs) (h2 : RowsAt KA.cells 10 H q ys) (hx : ∀ x ∈ xs, KaAt H x) (hy : ∀ x ∈ ys, KaAt H x) (he : xs.map KA.an = ys.map KA.an) (hs : ∀ x ∈ xs, Small x.an) (hl : xs.length = n) (hn : n < 1000000) :
    CallsH Try.prog 10 ⟨[.slice p n c, .slice q n d]⟩ H (Gives (.bool true) H) := by
  have R1 : RowsC H p KA.cells 10 xs := ⟨h1⟩
  have R2 : RowsC H q KA.cells 10 ys := ⟨h2⟩
  refine F10.calls ?_
  unfold F10.go
  refine iteB_f (by simp) ?_
  exact alike_loop hx hy he hs hl hn n 0 H (by omega) (ExtH.refl H)
theorem kaAt_of {H : Heap} {q : Option Addr} {n k : Nat} {xs : List KA} (S : Sat H (kaL q n k xs L)) : RowsAt KA.cells 10 H q xs ∧ ∀ x ∈ xs, KaAt H x := by
  refine ⟨S.rowsAt (List.mem_cons_self ..), fun x hx => ?_⟩
  have S1 := (S.to (.drop .refl)).star
  rw [bigs_ka] at S1
  have hm : kaP 0 x ∈ xs.map (kaP 0) ++ L := List.mem_append_left _ (List.mem_map_of_mem hx)
  obtain ⟨a, b, hab⟩ := List.append_of_mem hm
  rw [hab] at S1
  have S2 : Sat H (kaP 0 x :: (a ++ b)) := S1.to (fun k h => SatP.perm List.perm_middle h)
  have S3 := S2.star
  simp only [List.cons_append, List.nil_append] at S3
  exact ⟨S3.rowsAt (List.mem_cons_self ..), GsAt.of (T := 69) (U := 31) (S3.to (.drop .refl))⟩
end
end Go.Proofs.Ytpjnmdeeoafclaa

set_option linter.unusedVariables false
set_option linter.unnecessarySimpa false
set_option linter.unusedSimpArgs false
namespace Go.Proofs.Ytpjnmdeeoafclaa
open Go Go.Den Go.Proofs
theorem keyAnswers_ok {H : Heap} {key : ByteArray} {s : Option Addr} {c : Nat} {ops : List KO} (hR : RowsAt KO.cells 7 H s ops) : CallsH Try.prog 3 ⟨[.string key, .slice s ops.length c]⟩ H (Gives (.bool true) H) := by
  have R0 : RowsC H s KO.cells 7 ops := ⟨hR⟩
  refine F3.calls ?_
  unfold F3.go
  refine iteB_i (fun h => ⟨rfl, ExtH.refl H⟩) (fun hk => ?_)
  refine iteB_i (fun h => ⟨rfl, ExtH.refl H⟩) (fun h => ?_)
  have hk := of_decide_eq_false hk
  refine F3.L0_step ?_
  unfold F3.L0n
  refine call_of (life_ok (L := [old H]) (Sat.start H)) ?_
  intro e H1 he
  cases hl : kyLife ops with
  | none =>
    rw [hl] at he
    obtain ⟨rfl, S1⟩ := he
    (repeat (first | (refine Step.go ?_; intros) | refine iteB_t (by decide) ?_ | refine iteB_f (by decide) ?_ | (refine Duo.mk (by first | omega | exact rfl | decide) ?_; intros) | (refine Duo.mk (Clo.mk (by kernel_rfl)) ?_; intros)))
    refine gives_i S1 (live_ok H1) ?_
    intro H2 E2 S2
    (repeat (first | (refine Step.go ?_; intros) | refine iteB_t (by decide) ?_ | refine iteB_f (by decide) ?_ | (refine Duo.mk (by first | omega | exact rfl | decide) ?_; intros) | (refine Duo.mk (Clo.mk (by kernel_rfl)) ?_; intros)))
    exact ⟨rfl, Sat.grown⟩
  | some la =>
    obtain ⟨l', aa⟩ := la
    rw [hl] at he
    obtain ⟨p', c', q, k, xs, rfl, hxs, S1⟩ := he
    have hn : ops.length ≤ 300 := by
      unfold kyLife at hl
      split at hl
      · cases hl
      · omega
    have hr : kyRun [] true ops = some (l', aa) := by
      unfold kyLife at hl
      rwa [if_neg (by omega)] at hl
    obtain ⟨k1, k2, k3, _⟩ := run_start (by omega) hr
    (repeat (first | (refine Step.go ?_; intros) | refine iteB_t (by decide) ?_ | refine iteB_f (by decide) ?_ | (refine Duo.mk (by first | omega | exact rfl | decide) ?_; intros) | (refine Duo.mk (Clo.mk (by kernel_rfl)) ?_; intros)))
    have E1 : ExtH H H1 := Sat.grown
    have hG : GsAt H1 none [] := ⟨.inl rfl, fun x hx => by cases hx⟩
    refine grow_i S1 (key_grow (md := (0, 0)) (X := []) (pc := 0) (by omega) hG (by decide) (fun x hx => by cases hx) (hR.ext E1) k1 (by omega)) ?_
    rintro ⟨⟨⟨gq, gk⟩, gs⟩, hgs⟩ H2 E2 S2
    dsimp only at hgs S2 ⊢
    have hgl : (krun (0, 0) (([] : List GX).map gx) ops).length = gs.length := by rw [← hgs, List.length_map]
    rw [hgl] at S2 ⊢
    simp only [List.cons_append, List.nil_append] at S2 ⊢
    (repeat (first | (refine Step.go ?_; intros) | refine iteB_t (by decide) ?_ | refine iteB_f (by decide) ?_ | (refine Duo.mk (by first | omega | exact rfl | decide) ?_; intros) | (refine Duo.mk (Clo.mk (by kernel_rfl)) ?_; intros)))
    have hgs2 : gs.map KA.an = xs.map KA.an := by rw [hgs, hxs]; exact k2
    have hlen : xs.length = gs.length := by have := congrArg List.length hgs2; simp at this; omega
    have ka1 := kaAt_of (L := sl vC 46 6 p' l'.length c' l' :: kaL q xs.length k xs [old H]) S2
    have S3 : Sat H2 (kaL q xs.length k xs (sl vC 46 6 p' l'.length c' l' :: kaL gq gs.length gk gs [old H])) := S2.to Fits.out
    have ka2 := kaAt_of S3
    have hsm : ∀ x ∈ gs, Small x.an := fun x hx => k3 _ (by rw [← hxs, ← hgs2]; exact List.mem_map_of_mem hx)
    have hgn : gs.length < 1000000 := by
      have : (krun (0, 0) [] ops).length = ops.length := by
        have : ∀ (os : List KO) (md : Rv) (G : List Gn), (krun md G os).length = os.length := by
          intro os
          induction os with
          | nil => intro _ _; rfl
          | cons o os ih => intro md G; show (_ :: _).length = _; rw [List.length_cons, ih]; rfl
        exact this _ _ _
      have h2 : (krun (0, 0) (([] : List GX).map gx) ops).length = ops.length := this
      omega
    rw [hlen]
    refine gives_i S2 (alike_ok ka1.1 ka2.1 ka1.2 ka2.2 hgs2 hsm rfl hgn) ?_
    intro H3 E3 S4
    (repeat (first | (refine Step.go ?_; intros) | refine iteB_t (by decide) ?_ | refine iteB_f (by decide) ?_ | (refine Duo.mk (by first | omega | exact rfl | decide) ?_; intros) | (refine Duo.mk (Clo.mk (by kernel_rfl)) ?_; intros)))
    refine gives_i S4 (live_ok H3) ?_
    intro H4 E4 S5
    (repeat (first | (refine Step.go ?_; intros) | refine iteB_t (by decide) ?_ | refine iteB_f (by decide) ?_ | (refine Duo.mk (by first | omega | exact rfl | decide) ?_; intros) | (refine Duo.mk (Clo.mk (by kernel_rfl)) ?_; intros)))
    exact ⟨rfl, Sat.grown⟩
end Go.Proofs.Ytpjnmdeeoafclaa
