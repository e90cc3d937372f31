/- What functions of this seat do, each proved by a walk; no condition. -/
import Derived.Test.YtpjnmdeeoafclaaKM
set_option linter.unusedVariables false
set_option linter.unusedSimpArgs false
namespace Go.Proofs.Ytpjnmdeeoafclaa
open Go Go.Den Go.Proofs
/-! Dumps. -/
abbrev rvT (U : TypeId) (_ : Nat) (x : GX) : HP := sl rvC U 2 x.1.p x.1.n x.1.c x.2
abbrev dmp (T U : TypeId) (p : Option Addr) (n c : Nat) (X : List GX) (l : List HP) : List HP := sl GS.cells T 4 p n c (X.map (·.1)) :: star (bigs (rvT U) 0 X) :: l
structure GsAt (H : Heap) (p : Option Addr) (X : List GX) : Prop where
  rows : RowsAt GS.cells 4 H p (X.map (·.1))
  revs : ∀ x ∈ X, x.2.length = x.1.n ∧ RowsAt rvC 2 H x.1.p x.2
theorem GsAt.ext {H H1 : Heap} {p : Option Addr} {X : List GX} (h : GsAt H p X) (e : ExtH H H1) : GsAt H1 p X := ⟨h.rows.ext e, fun x hx => ⟨(h.revs x hx).1, (h.revs x hx).2.ext e⟩⟩
theorem GsAt.of {H : Heap} {T U : TypeId} {p : Option Addr} {n c : Nat} {X : List GX} {l : List HP} (S : Sat H (dmp T U p n c X l)) : GsAt H p X := by
  refine ⟨S.rowsAt (List.mem_cons_self ..), fun x hx => ?_⟩
  obtain ⟨i, hi⟩ := List.getElem?_of_mem hx
  have hm := List.mem_append_left l (bigs_mem (f := rvT U) (k := 0) hi)
  have S1 := (S.to (.drop .refl)).star
  exact ⟨(S1.slLen hm).1, S1.rowsAt hm⟩
theorem star_snoc {U : TypeId} {Y : List GX} {y : GX} {l : List HP} : Ent (rvT U 0 y :: star (bigs (rvT U) 0 Y) :: l) (star (bigs (rvT U) 0 (Y ++ [y])) :: l) := by
  rw [bigs_append]
  refine Ent.trans (Ent.consStar) ?_
  exact .starPerm (List.perm_append_comm (l₁ := [rvT U (0 + Y.length) y]))
theorem rvC_len (y : Rv) : (rvC y).length = 2 := rfl
theorem rvC_cell (y : Rv) : ∀ v ∈ rvC y, isCell v = true := by intro v hv; simp [rvC] at hv; rcases hv with rfl | rfl <;> rfl
section
variable {kb : Nat} {key : Value} {md : Rv} {p : Option Addr} {n c : Nat} {X : List GX} {l : List HP} {H : Heap}
theorem zzOut_loop {s2 kb2 : Nat} (hn : n < 100000) (hr : ∀ x ∈ X, x.2.length < 100000) : ∀ (d i : Nat) (Z : Int) (Y : List GX) (q : Option Addr) (k : Nat) (H : Heap), i + d = n → Z = (i : Int) → Y.map gx = (X.take i).map gx →
    Sat H (pt kb2 (.cells ⟨[.int .i64 md.1, .int .i64 md.2, .slice q i k]⟩ 63) :: pt s2 (.cells ⟨[.int .i64 0, .int .i64 0, .slice none 0 0]⟩ 63) :: dmp 84 60 q i k Y (kis kb key md p n c X l)) →
    F66.L0 s2 kb2 p n c (n : Int) Z H (fun e H1 => ∃ q k Y, e = .returned (.agg ⟨[.int .i64 md.1, .int .i64 md.2, .slice q n k]⟩) ∧ Y.map gx = X.map gx ∧ Sat H1 (dmp 84 60 q n k Y (kis kb key md p n c X l))) := by
  intro d
  induction d with
  | zero =>
    intro i Z Y q k H hi hZ hY S
    subst hZ
    have hl := (S.slLen (List.mem_cons_of_mem _ (List.mem_cons_of_mem _ (List.mem_cons_of_mem _ (List.mem_cons_of_mem _ (List.mem_cons_of_mem _ (List.mem_cons_self ..))))))).1
    simp at hl
    obtain rfl : i = n := by omega
    refine F66.L0_step ?_
    unfold F66.L0n
    refine iteB_f (by rw [decide_eq_false_iff_not]; omega) ?_
    (repeat (first | (refine Step.go ?_; intros) | refine iteB_t (by decide) ?_ | refine iteB_f (by decide) ?_ | (refine Duo.mk (by first | omega | exact rfl | decide) ?_; intros) | (refine Duo.mk (Clo.mk (by kernel_rfl)) ?_; intros)))
    rename_i H1 S1
    rw [List.take_of_length_le (by omega)] at hY
    exact ⟨q, k, Y, rfl, hY, S1.to (.drop (.drop .refl))⟩
  | succ d ih =>
    intro i Z Y q k H hi hZ hY S
    subst hZ
    have hl := (S.slLen (List.mem_cons_of_mem _ (List.mem_cons_of_mem _ (List.mem_cons_of_mem _ (List.mem_cons_of_mem _ (List.mem_cons_of_mem _ (List.mem_cons_self ..))))))).1
    simp at hl
    obtain ⟨⟨⟨ver, cr, p1, n1, c1⟩, rs⟩, hx⟩ := get_of (l := X) (i := i) (by omega)
    have hr1 : rs.length < 100000 := hr _ (List.mem_of_getElem? hx)
    have A1 : HasI (X.map (·.1)) (i : Int) ⟨ver, cr, p1, n1, c1⟩ := hasX hx
    have w1 : IntKind.wrap .i64 ((i : Int) + 1) = ((i + 1 : Nat) : Int) := by rw [wr (by omega) (by omega)]; omega
    refine F66.L0_step ?_
    unfold F66.L0n
    refine iteB_t (by rw [decide_eq_true_iff]; omega) ?_
    refine S.idx (p := p) ⟨by omega, by omega, ?_⟩
    rintro r o rfl
    (repeat (first | (refine Step.go ?_; intros) | refine iteB_t (by decide) ?_ | refine iteB_f (by decide) ?_ | (refine Duo.mk (by first | omega | exact rfl | decide) ?_; intros) | (refine Duo.mk (Clo.mk (by kernel_rfl)) ?_; intros)))
    rename_i H5 S5
    have hG := GsAt.of (T := 105) (U := 60) (p := some ⟨r, o, none⟩) (n := n) (c := c) (X := X) (l := kiB kb key md (some ⟨r, o, none⟩) n c :: l) (H := H5) (S5.to Fits.out)
    obtain ⟨hl1, hR⟩ := hG.revs _ (List.mem_of_getElem? hx)
    refine dup_i (f := rvC) S5 hR hl1 rvC_len rvC_cell rfl (by decide) (by dsimp only at hl1 ⊢; omega) ?_
    intro q3 k3 H6 E6 S6
    refine andD_i E6 ?_
    (repeat (first | (refine Step.go ?_; intros) | refine iteB_t (by decide) ?_ | refine iteB_f (by decide) ?_ | (refine Duo.mk (by first | omega | exact rfl | decide) ?_; intros) | (refine Duo.mk (Clo.mk (by kernel_rfl)) ?_; intros)))
    rename_i q4 k4 _ _ H7 S7
    rw [w1]
    refine ih (i + 1) _ (Y ++ [(⟨ver, cr, q3, n1, k3⟩, rs)]) q4 k4 H7 (by omega) rfl ?_ ?_
    · rw [take_succ hx, List.map_append, List.map_append, hY]; rfl
    · have S8 : Sat H7 (sl rvC 60 2 q3 n1 k3 rs :: star (bigs (rvT 60) 0 Y) :: pt kb2 (.cells ⟨[.int .i64 md.1, .int .i64 md.2, .slice q4 (i + 1) k4]⟩ 63) :: pt s2 (.cells ⟨[.int .i64 0, .int .i64 0, .slice none 0 0]⟩ 63) :: sl GS.cells 84 4 q4 (i + 1) k4 (Y.map (·.1) ++ [⟨ver, cr, q3, n1, k3⟩]) :: kis kb key md (some ⟨r, o, none⟩) n c X l) := S7.to Fits.out
      have S9 := S8.to (star_snoc (U := 60) (Y := Y) (y := (⟨ver, cr, q3, n1, k3⟩, rs)))
      rw [show (Y.map (·.1) ++ [⟨ver, cr, q3, n1, k3⟩] : List GS) = (Y ++ [((⟨ver, cr, q3, n1, k3⟩ : GS), rs)]).map (·.1) by simp] at S9
      exact S9.to Fits.out
theorem zzOut_ok (hn : X.length < 100000) (hr : ∀ x ∈ X, x.2.length < 100000) (S : Sat H (kis kb key md p n c X l)) : CallsH Try.prog 66 ⟨[.pointer (some ⟨kb, 0, none⟩)]⟩ H
    (fun e H1 => ∃ q k Y, e = .returned (.agg ⟨[.int .i64 md.1, .int .i64 md.2, .slice q n k]⟩) ∧ Y.map gx = X.map gx ∧ Sat H1 (dmp 84 60 q n k Y (kis kb key md p n c X l))) := by
  have hl := (kis_len S).1
  refine F66.calls ?_
  unfold F66.go
  (repeat (first | (refine Step.go ?_; intros) | refine iteB_t (by decide) ?_ | refine iteB_f (by decide) ?_ | (refine Duo.mk (by first | omega | exact rfl | decide) ?_; intros) | (refine Duo.mk (Clo.mk (by kernel_rfl)) ?_; intros)))
  rename_i s2 _ _ kb2 _ _ _ _ _ _ H1 S1
  have S2 : Sat H1 (star (bigs (rvT 60) 0 []) :: pt kb2 (.cells ⟨[.int .i64 md.1, .int .i64 md.2, .slice none 0 0]⟩ 63) :: pt s2 (.cells ⟨[.int .i64 0, .int .i64 0, .slice none 0 0]⟩ 63) :: kis kb key md p n c X l) := S1.to (.star (by simp only [bigs, List.nil_append]; exact Fits.out))
  have S3 : Sat H1 (sl GS.cells 84 4 none 0 0 (([] : List GX).map (·.1)) :: star (bigs (rvT 60) 0 []) :: pt kb2 (.cells ⟨[.int .i64 md.1, .int .i64 md.2, .slice none 0 0]⟩ 63) :: pt s2 (.cells ⟨[.int .i64 0, .int .i64 0, .slice none 0 0]⟩ 63) :: kis kb key md p n c X l) := S2.to (.slNil .refl)
  exact zzOut_loop (by omega) hr n 0 _ [] none 0 _ (by omega) rfl rfl (S3.to Fits.out)
end
end Go.Proofs.Ytpjnmdeeoafclaa
