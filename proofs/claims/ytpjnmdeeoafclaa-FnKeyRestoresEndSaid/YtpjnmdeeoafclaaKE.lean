/- What functions of this seat do, each proved by a walk; no condition. -/
import Derived.Test.YtpjnmdeeoafclaaKD
set_option linter.unusedVariables false
namespace Go.Proofs.Ytpjnmdeeoafclaa
open Go Go.Den Go.Proofs
/-! What reads a key's index. -/
def lastM (rs : List Rv) : Int := (rs.getLastD (0, 0)).1
def firstM (rs : List Rv) : Int := (rs.headD (0, 0)).1
/-- The generation that holds at a number, of the first k ones. -/
def fg (t : Int) (G : List Gn) : Nat → Option Nat
  | 0 => none
  | k + 1 => match G[k]? with
    | none => none
    | some x => if x.2.2 = [] then fg t G k else if k + 1 ≠ G.length ∧ lastM x.2.2 ≤ t then none else if firstM x.2.2 ≤ t then some k else fg t G k
def gpt (a : Addr) : Option Nat → Option Addr
  | none => none
  | some i => some (Addr.add a (Int.toNat (i : Int) * 4))
theorem hasLast' {α : Type} {rs : List α} {d : α} {n : Nat} (h : rs.length = n) (h0 : rs ≠ []) (hn : n < 1000000) : HasI rs (IntKind.wrap .i64 ((n : Int) - 1)) (rs.getLastD d) := ⟨by
  have : 0 < rs.length := List.length_pos_iff.2 h0
  rw [wr (by omega) (by omega), show ((n : Int) - 1).toNat = rs.length - 1 by omega, ← List.getLast?_eq_getElem?, List.getLastD_eq_getLast?, List.getLast?_eq_some_getLast h0]
  rfl⟩
theorem hasFirst' {α : Type} {rs : List α} {d : α} (h0 : rs ≠ []) : HasI rs 0 (rs.headD d) := ⟨by
  cases rs with
  | nil => exact absurd rfl h0
  | cons a t => rfl⟩
section
variable {kb : Nat} {key : Value} {md : Rv} {p : Option Addr} {n c : Nat} {X : List GX} {l : List HP} {H : Heap}
theorem kis_rvs {i : Nat} {x : GX} (hi : X[i]? = some x) (S : Sat H (kis kb key md p n c X l)) : x.2.length = x.1.n :=
  ((S.bring (.there (.there .here))).star.slLen (List.mem_append_left _ (bigs_mem (f := rvs) (k := 0) hi))).1
theorem fg_loop {t : Int} {r o : Nat} (hn : n < 100000) (hr : ∀ x ∈ X, x.2.length < 100000) : ∀ (k : Nat) (H : Heap), k ≤ n → Sat H (kis kb key md (some ⟨r, o, none⟩) n c X l) →
    F69.L0 (some ⟨kb, 0, none⟩) t (IntKind.wrap .i64 ((n : Int) - 1)) ((k : Int) - 1) H (fun e H1 => e = .returned (.pointer (gpt ⟨r, o, none⟩ (fg t (X.map gx) k))) ∧ Sat H1 (kis kb key md (some ⟨r, o, none⟩) n c X l)) := by
  intro k
  induction k with
  | zero =>
    intro H hk S
    refine F69.L0_step ?_
    unfold F69.L0n
    refine iteB_f (by rfl) ?_
    exact ⟨rfl, S⟩
  | succ k ih =>
    intro H hk S
    obtain ⟨h1, h2⟩ := kis_len S
    obtain ⟨⟨⟨ver, cr, p1, n1, c1⟩, rs⟩, hx⟩ := get_of (l := X) (i := k) (by omega)
    have hl : rs.length = n1 := kis_rvs hx S
    have hr2 : rs.length < 100000 := hr (_, rs) (List.mem_of_getElem? hx)
    have w1 : IntKind.wrap .i64 ((((k + 1 : Nat) : Int) - 1) - 1) = (k : Int) - 1 := by rw [wr (by omega) (by omega)]; omega
    have w2 : IntKind.wrap .i64 ((n : Int) - 1) = (n : Int) - 1 := wr (by omega) (by omega)
    have A1 : HasI (X.map (·.1)) (((k + 1 : Nat) : Int) - 1) ⟨ver, cr, p1, n1, c1⟩ := by
      rw [show (((k + 1 : Nat) : Int) - 1) = (k : Int) by omega]; exact hasX hx
    have A2 := atX' hx
    have ef : fg t (X.map gx) (k + 1) = (if rs = [] then fg t (X.map gx) k else if k + 1 ≠ X.length ∧ lastM rs ≤ t then none else if firstM rs ≤ t then some k else fg t (X.map gx) k) := by
      show (match (X.map gx)[k]? with | none => _ | some x => _) = _
      rw [List.getElem?_map, hx, List.length_map]
      rfl
    refine F69.L0_step ?_
    unfold F69.L0n
    refine iteB_t (by simp <;> omega) ?_
    (repeat (first | (refine Step.go ?_; intros) | refine iteB_t (by decide) ?_ | refine iteB_f (by decide) ?_ | (refine Duo.mk (by first | omega | exact rfl | decide) ?_; intros) | (refine Duo.mk (Clo.mk (by kernel_rfl)) ?_; intros)))
    rw [w1]
    refine iteB_i (fun h => ?_) (fun h => ?_)
    · have h0 : rs = [] := List.eq_nil_of_length_eq_zero (by simp at h; omega)
      rw [ef, if_pos h0]
      exact ih H (by omega) S
    · have h0 : rs ≠ [] := by intro h0; rw [h0] at hl; simp at h hl; omega
      have hn1 : 0 < n1 := by have := List.length_pos_iff.2 h0; omega
      have w3 : IntKind.wrap .i64 ((n1 : Int) - 1) = (n1 : Int) - 1 := wr (by omega) (by omega)
      have A3 := hasLast' (d := ((0, 0) : Rv)) hl h0 (by omega)
      have A4 := hasFirst' (d := ((0, 0) : Rv)) h0
      rw [ef, if_neg h0]
      (repeat (first | (refine Step.go ?_; intros) | refine iteB_t (by decide) ?_ | refine iteB_f (by decide) ?_ | (refine Duo.mk (by first | omega | exact rfl | decide) ?_; intros) | (refine Duo.mk (Clo.mk (by kernel_rfl)) ?_; intros)))
      rename_i r1 _ _ _ _ _ _ _ _ H1 S1
      have T : (¬ (k + 1 ≠ X.length ∧ lastM rs ≤ t)) → F69.L1 (some ⟨kb, 0, none⟩) t (IntKind.wrap .i64 ((n : Int) - 1)) (((k + 1 : Nat) : Int) - 1) r1 H1 (fun e H1 => e = .returned (.pointer (gpt ⟨r, o, none⟩ (if k + 1 ≠ X.length ∧ lastM rs ≤ t then none else if firstM rs ≤ t then some k else fg t (X.map gx) k))) ∧ Sat H1 (kis kb key md (some ⟨r, o, none⟩) n c X l)) := by
        intro hT
        refine F69.L1_step ?_
        unfold F69.L1n
        rw [if_neg hT]
        (repeat (first | (refine Step.go ?_; intros) | refine iteB_t (by decide) ?_ | refine iteB_f (by decide) ?_ | (refine Duo.mk (by first | omega | exact rfl | decide) ?_; intros) | (refine Duo.mk (Clo.mk (by kernel_rfl)) ?_; intros)))
        refine S1.idx ⟨by first | omega | (dsimp only; omega), by first | omega | (dsimp only; omega), ?_⟩
        rintro r2 o2 rfl
        (repeat (first | (refine Step.go ?_; intros) | refine iteB_t (by decide) ?_ | refine iteB_f (by decide) ?_ | (refine Duo.mk (by first | omega | exact rfl | decide) ?_; intros) | (refine Duo.mk (Clo.mk (by kernel_rfl)) ?_; intros)))
        refine iteB_i (fun h3 => ?_) (fun h3 => ?_)
        · have hF : firstM rs ≤ t := of_decide_eq_true h3
          rw [if_pos hF]
          (repeat (first | (refine Step.go ?_; intros) | refine iteB_t (by decide) ?_ | refine iteB_f (by decide) ?_ | (refine Duo.mk (by first | omega | exact rfl | decide) ?_; intros) | (refine Duo.mk (Clo.mk (by kernel_rfl)) ?_; intros)))
          refine ⟨?_, S1.to (Ent.drop .refl)⟩
          rw [show (((k + 1 : Nat) : Int) - 1) = (k : Int) by omega]
          rfl
        · have hF : ¬ firstM rs ≤ t := of_decide_eq_false h3
          rw [if_neg hF, w1]
          exact ih H1 (by omega) (S1.to (Ent.drop .refl))
      refine iteB_i (fun h2 => ?_) (fun h2 => ?_)
      · (repeat (first | (refine Step.go ?_; intros) | refine iteB_t (by decide) ?_ | refine iteB_f (by decide) ?_ | (refine Duo.mk (by first | omega | exact rfl | decide) ?_; intros) | (refine Duo.mk (Clo.mk (by kernel_rfl)) ?_; intros)))
        refine S1.idx ⟨by first | omega | (dsimp only; omega), by first | omega | (dsimp only; omega), ?_⟩
        rintro r2 o2 rfl
        (repeat (first | (refine Step.go ?_; intros) | refine iteB_t (by decide) ?_ | refine iteB_f (by decide) ?_ | (refine Duo.mk (by first | omega | exact rfl | decide) ?_; intros) | (refine Duo.mk (Clo.mk (by kernel_rfl)) ?_; intros)))
        refine iteB_i (fun h3 => ?_) (fun h3 => ?_)
        · have h3 := of_decide_eq_true h3
          rw [if_pos ⟨by simp at h2; omega, h3⟩]
          exact ⟨rfl, S1.to (Ent.drop .refl)⟩
        · exact T (fun h4 => of_decide_eq_false h3 h4.2)
      · exact T (fun h4 => by simp at h2; omega)
theorem fg_ok {t : Int} {r o : Nat} (hn : n < 100000) (hr : ∀ x ∈ X, x.2.length < 100000) (S : Sat H (kis kb key md (some ⟨r, o, none⟩) n c X l)) :
    CallsH Try.prog 69 ⟨[.pointer (some ⟨kb, 0, none⟩), .int .i64 t]⟩ H (fun e H1 => e = .returned (.pointer (gpt ⟨r, o, none⟩ (fg t (X.map gx) X.length))) ∧ Sat H1 (kis kb key md (some ⟨r, o, none⟩) n c X l)) := by
  refine F69.calls ?_
  unfold F69.go
  (repeat (first | (refine Step.go ?_; intros) | refine iteB_t (by decide) ?_ | refine iteB_f (by decide) ?_ | (refine Duo.mk (by first | omega | exact rfl | decide) ?_; intros) | (refine Duo.mk (Clo.mk (by kernel_rfl)) ?_; intros)))
  have h1 := (kis_len S).1
  have := fg_loop (t := t) hn hr n H (Nat.le_refl _) S
  rw [wr (by omega) (by omega)] at this ⊢
  rw [h1]
  exact this
end
end Go.Proofs.Ytpjnmdeeoafclaa
