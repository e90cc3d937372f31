/- What functions of this seat do, each proved by a walk; no condition. -/
import Derived.Test.YtjdaencapbjmdaaSH
set_option linter.unusedVariables false
set_option linter.unusedSimpArgs false
set_option linter.unnecessarySimpa false
namespace Go.Proofs.Ytjdaencapbjmdaa
open Go Go.Den Go.Proofs
abbrev bA : ByteArray := ⟨#[97]⟩
abbrev bC : ByteArray := ⟨#[99]⟩
abbrev spAC : SP := ⟨bA, bC, false, 0, 0⟩
abbrev inC (n : Int) : List Value := [.int .i64 n]
section
variable {H : Heap} {L : List HP} {tr sr nb ra : Nat}
theorem spanOut_ok : CallsH Try.prog 29 ⟨[.agg ⟨[eA, eC]⟩]⟩ H (Gives (.agg ⟨spAC.cells⟩) H) := by
  have S := Sat.start H
  refine F29.calls (s0_0 := .mk 83 (.string bA)) (s0_1 := .mk 83 (.string bC)) ?_
  unfold F29.go
  (repeat (first | (refine Step.go ?_; intros) | refine iteB_t (by decide) ?_ | refine iteB_f (by decide) ?_ | (refine Duo.mk (by first | omega | exact rfl | decide) ?_; intros) | (refine Duo.mk (Clo.mk (by kernel_rfl)) ?_; intros)))
  refine assertOk_ne (z := .string ⟨#[]⟩) (by decide) (by kernel_rfl) (by kernel_rfl) ?_
  (repeat (first | (refine Step.go ?_; intros) | refine iteB_t (by decide) ?_ | refine iteB_f (by decide) ?_ | (refine Duo.mk (by first | omega | exact rfl | decide) ?_; intros) | (refine Duo.mk (Clo.mk (by kernel_rfl)) ?_; intros)))
  refine assertOk_same (by kernel_rfl) ?_
  (repeat (first | (refine Step.go ?_; intros) | refine iteB_t (by decide) ?_ | refine iteB_f (by decide) ?_ | (refine Duo.mk (by first | omega | exact rfl | decide) ?_; intros) | (refine Duo.mk (Clo.mk (by kernel_rfl)) ?_; intros)))
  refine F29.L0_step ?_
  unfold F29.L0n
  (repeat (first | (refine Step.go ?_; intros) | refine iteB_t (by decide) ?_ | refine iteB_f (by decide) ?_ | (refine Duo.mk (by first | omega | exact rfl | decide) ?_; intros) | (refine Duo.mk (Clo.mk (by kernel_rfl)) ?_; intros)))
  refine assertOk_ne (z := .string ⟨#[]⟩) (by decide) (by kernel_rfl) (by kernel_rfl) ?_
  (repeat (first | (refine Step.go ?_; intros) | refine iteB_t (by decide) ?_ | refine iteB_f (by decide) ?_ | (refine Duo.mk (by first | omega | exact rfl | decide) ?_; intros) | (refine Duo.mk (Clo.mk (by kernel_rfl)) ?_; intros)))
  refine assertOk_same (by kernel_rfl) ?_
  (repeat (first | (refine Step.go ?_; intros) | refine iteB_t (by decide) ?_ | refine iteB_f (by decide) ?_ | (refine Duo.mk (by first | omega | exact rfl | decide) ?_; intros) | (refine Duo.mk (Clo.mk (by kernel_rfl)) ?_; intros)))
  exact ⟨rfl, Sat.grown⟩
abbrev ansO (ok : Bool) (lp : Option Addr) (ln lc : Nat) (vp : Option Addr) (vn vc : Nat) : Obj := .cells ⟨[.bool ok, .int .i64 0, .int .i64 0, .slice lp ln lc, .slice vp vn vc]⟩ 41
theorem note_ok (S : Sat H (pt ra (ansO true none 0 0 none 0 0) :: pt nb (nodO sr sr 0) :: L)) : CallsH Try.prog 28 ⟨[pA nb, pA ra]⟩ H (fun e H1 => e = .returned (.tuple ⟨[]⟩) ∧ ∃ lp lc vp vc, Sat H1 (sl inC 3 1 vp 1 vc [4] :: pt ra (ansO true lp 1 lc vp 1 vc) :: pt nb (nodO sr sr 0) :: L)) := by
  refine F28.calls ?_
  unfold F28.go
  (repeat (first | (refine Step.go ?_; intros) | refine iteB_t (by decide) ?_ | refine iteB_f (by decide) ?_ | (refine Duo.mk (by first | omega | exact rfl | decide) ?_; intros) | (refine Duo.mk (Clo.mk (by kernel_rfl)) ?_; intros)))
  refine gives_i S spanOut_ok ?_
  intro H1 E1 S1
  (repeat (first | (refine Step.go ?_; intros) | refine iteB_t (by decide) ?_ | refine iteB_f (by decide) ?_ | (refine Duo.mk (by first | omega | exact rfl | decide) ?_; intros) | (refine Duo.mk (Clo.mk (by kernel_rfl)) ?_; intros)))
  rename_i r H2 S2
  have R2 : RowsAt SP.cells 5 H2 (some ⟨r, 0, none⟩) [spAC] := RowsAt.of_block (S2.at_ (List.mem_cons_self ..)) (by
    intro i x hi j v hj
    have := flat_at (f := SP.cells) (z := 5) (fun _ _ => rfl) hi hj
    exact this)
  refine dup_i S2 R2 rfl (fun _ => rfl) (fun y v hv => by simp [SP.cells] at hv; rcases hv with rfl | rfl | rfl | rfl | rfl <;> rfl) rfl (by decide) (by decide) ?_
  intro lp lc H3 E3 S3
  (repeat (first | (refine Step.go ?_; intros) | refine iteB_t (by decide) ?_ | refine iteB_f (by decide) ?_ | (refine Duo.mk (by first | omega | exact rfl | decide) ?_; intros) | (refine Duo.mk (Clo.mk (by kernel_rfl)) ?_; intros)))
  rename_i H4 S4
  refine ⟨?_, ?_⟩
  · (repeat (first | (refine Step.go ?_; intros) | refine iteB_t (by decide) ?_ | refine iteB_f (by decide) ?_ | (refine Duo.mk (by first | omega | exact rfl | decide) ?_; intros) | (refine Duo.mk (Clo.mk (by kernel_rfl)) ?_; intros)))
    rename_i r2 H5 S5
    have R5 : RowsAt inC 1 H5 (some ⟨r2, 0, none⟩) [4] := RowsAt.of_block (S5.at_ (List.mem_cons_self ..)) (by
      intro i x hi j v hj
      have := flat_at (f := inC) (z := 1) (fun _ _ => rfl) hi hj
      exact this)
    refine dup_i S5 R5 rfl (fun _ => rfl) (fun y v hv => by simp [inC] at hv; subst hv; rfl) rfl (by decide) (by decide) ?_
    intro vp vc H6 E6 S6
    (repeat (first | (refine Step.go ?_; intros) | refine iteB_t (by decide) ?_ | refine iteB_f (by decide) ?_ | (refine Duo.mk (by first | omega | exact rfl | decide) ?_; intros) | (refine Duo.mk (Clo.mk (by kernel_rfl)) ?_; intros)))
    rename_i H7 S7
    exact ⟨rfl, lp, lc, vp, vc, S7.to Fits.out⟩
  · (repeat (first | (refine Step.go ?_; intros) | refine iteB_t (by decide) ?_ | refine iteB_f (by decide) ?_ | (refine Duo.mk (by first | omega | exact rfl | decide) ?_; intros) | (refine Duo.mk (Clo.mk (by kernel_rfl)) ?_; intros)))
    rename_i r2 H5 S5
    have R5 : RowsAt inC 1 H5 (some ⟨r2, 0, none⟩) [4] := RowsAt.of_block (S5.at_ (List.mem_cons_self ..)) (by
      intro i x hi j v hj
      have := flat_at (f := inC) (z := 1) (fun _ _ => rfl) hi hj
      exact this)
    refine dup_i S5 R5 rfl (fun _ => rfl) (fun y v hv => by simp [inC] at hv; subst hv; rfl) rfl (by decide) (by decide) ?_
    intro vp vc H6 E6 S6
    (repeat (first | (refine Step.go ?_; intros) | refine iteB_t (by decide) ?_ | refine iteB_f (by decide) ?_ | (refine Duo.mk (by first | omega | exact rfl | decide) ?_; intros) | (refine Duo.mk (Clo.mk (by kernel_rfl)) ?_; intros)))
    rename_i H7 S7
    exact ⟨rfl, lp, lc, vp, vc, S7.to Fits.out⟩
/-- An operation of the small test. -/
abbrev opC (k v : Int) : List Value := [.int .i64 k, .string bA, .string bC, .bool false, .int .i64 0, .int .i64 0, .int .i64 v, .int .i64 0, .slice none 0 0, .slice none 0 0]
abbrev ansV (ok : Bool) (lp : Option Addr) (ln lc : Nat) (vp : Option Addr) (vn vc : Nat) : Value := .agg ⟨[.bool ok, .int .i64 0, .int .i64 0, .slice lp ln lc, .slice vp vn vc]⟩
theorem szAC : Sz spAC := ⟨by show (⟨#[97]⟩ : ByteArray).size ≤ _; decide, by show (⟨#[99]⟩ : ByteArray).size ≤ _; decide⟩
theorem spanAC : CallsH Try.prog 13 ⟨[.int .i64 1, .agg ⟨spAC.cells⟩]⟩ H (fun e H1 => ExtH H H1 ∧ e = .returned (.agg ⟨[eA, eC]⟩)) := by
  refine CallsH.mono (spanIn_ok (o := 1) (s := spAC) (by decide) szAC (fun h => by cases h)) ?_
  rintro e H1 ⟨E, i, j, rfl, hi, hj⟩
  refine ⟨E, ?_⟩
  cases hi
  cases hj
  rfl
theorem treedI (S : Sat H (pt tr (treO sr 0 sr) :: pt sr senO :: L)) : CallsH Try.prog 19 ⟨[.iface 68 (pA tr), .int .i64 1, .agg ⟨opC 1 4⟩]⟩ H (fun e H1 => e = .returned (ansV false none 0 0 none 0 0) ∧ ∃ nb, Sat H1 (pt tr (treO nb 1 sr) :: pt nb (nodO sr sr 0) :: pt sr senO :: L)) := by
  refine F19.calls (s0 := .mk 68 (pA tr)) ?_
  unfold F19.go
  (repeat (first | (refine Step.go ?_; intros) | refine iteB_t (by decide) ?_ | refine iteB_f (by decide) ?_ | (refine Duo.mk (by first | omega | exact rfl | decide) ?_; intros) | (refine Duo.mk (Clo.mk (by kernel_rfl)) ?_; intros)))
  rename_i r _ _ r1 _ _ r2 _ _ _ _ _ _ _ _ _ _ H1 S1
  refine callD_i spanAC ?_
  rintro e H2 ⟨E2, rfl⟩
  have S2 := Sat.later S1 E2
  (repeat (first | (refine Step.go ?_; intros) | refine iteB_t (by decide) ?_ | refine iteB_f (by decide) ?_ | (refine Duo.mk (by first | omega | exact rfl | decide) ?_; intros) | (refine Duo.mk (Clo.mk (by kernel_rfl)) ?_; intros)))
  rename_i r3 _ _ _ _ _ _ r4 _ _ H5 S5
  refine callI_i (f := 52) (by kernel_rfl) (by kernel_rfl) (by kernel_rfl) ?_
  have S6 : Sat H5 (pt tr (treO sr 0 sr) :: pt sr senO :: pt r2 (ansO false none 0 0 none 0 0) :: pt r1 (ansO false none 0 0 none 0 0) :: L) := S5.to Fits.out
  refine callD_i (insert_ok S6) ?_
  rintro e H6 ⟨rfl, nb, S7⟩
  (repeat (first | (refine Step.go ?_; intros) | refine iteB_t (by decide) ?_ | refine iteB_f (by decide) ?_ | (refine Duo.mk (by first | omega | exact rfl | decide) ?_; intros) | (refine Duo.mk (Clo.mk (by kernel_rfl)) ?_; intros)))
  rename_i H8 S8
  exact ⟨rfl, nb, S8.to Fits.out⟩
theorem treedF (S : Sat H (pt tr (treO nb 1 sr) :: pt nb (nodO sr sr 0) :: pt sr senO :: L)) : CallsH Try.prog 19 ⟨[.iface 68 (pA tr), .int .i64 1, .agg ⟨opC 3 0⟩]⟩ H (fun e H1 => ∃ lp lc vp vc, e = .returned (ansV true lp 1 lc vp 1 vc) ∧ Sat H1 (sl inC 3 1 vp 1 vc [4] :: L)) := by
  refine F19.calls (s0 := .mk 68 (pA tr)) ?_
  unfold F19.go
  (repeat (first | (refine Step.go ?_; intros) | refine iteB_t (by decide) ?_ | refine iteB_f (by decide) ?_ | (refine Duo.mk (by first | omega | exact rfl | decide) ?_; intros) | (refine Duo.mk (Clo.mk (by kernel_rfl)) ?_; intros)))
  rename_i r _ _ r1 _ _ r2 _ _ _ _ _ _ _ _ _ _ H1 S1
  refine callD_i spanAC ?_
  rintro e H2 ⟨E2, rfl⟩
  have S2 := Sat.later S1 E2
  (repeat (first | (refine Step.go ?_; intros) | refine iteB_t (by decide) ?_ | refine iteB_f (by decide) ?_ | (refine Duo.mk (by first | omega | exact rfl | decide) ?_; intros) | (refine Duo.mk (Clo.mk (by kernel_rfl)) ?_; intros)))
  rename_i r3 _ _ _ _ _ _ r4 _ _ H5 S5
  refine callI_i (f := 50) (by kernel_rfl) (by kernel_rfl) (by kernel_rfl) ?_
  have S6 : Sat H5 (pt tr (treO nb 1 sr) :: pt nb (nodO sr sr 0) :: pt sr senO :: pt r4 (.cells ⟨[.func (.func 28) ⟨[]⟩ ⟨[pA r2]⟩]⟩ 73) :: pt r2 (ansO false none 0 0 none 0 0) :: pt r1 (ansO false none 0 0 none 0 0) :: L) := S5.to Fits.out
  refine callD_i (findV_ok S6) ?_
  rintro e H6 ⟨rfl, S7⟩
  (repeat (first | (refine Step.go ?_; intros) | refine iteB_t (by decide) ?_ | refine iteB_f (by decide) ?_ | (refine Duo.mk (by first | omega | exact rfl | decide) ?_; intros) | (refine Duo.mk (Clo.mk (by kernel_rfl)) ?_; intros)))
  refine iteB_t rfl ?_
  (repeat (first | (refine Step.go ?_; intros) | refine iteB_t (by decide) ?_ | refine iteB_f (by decide) ?_ | (refine Duo.mk (by first | omega | exact rfl | decide) ?_; intros) | (refine Duo.mk (Clo.mk (by kernel_rfl)) ?_; intros)))
  rename_i H8 S8
  have S9 : Sat H8 (pt r2 (ansO true none 0 0 none 0 0) :: pt nb (nodO sr sr 0) :: pt r1 (ansO false none 0 0 none 0 0) :: L) := S8.to Fits.out
  refine callD_i (note_ok S9) ?_
  rintro e H9 ⟨rfl, lp, lc, vp, vc, S10⟩
  (repeat (first | (refine Step.go ?_; intros) | refine iteB_t (by decide) ?_ | refine iteB_f (by decide) ?_ | (refine Duo.mk (by first | omega | exact rfl | decide) ?_; intros) | (refine Duo.mk (Clo.mk (by kernel_rfl)) ?_; intros)))
  rename_i H11 S11
  exact ⟨lp, lc, vp, vc, rfl, S11.to Fits.out⟩
theorem newTree_ok : CallsH Try.prog 18 ⟨[]⟩ H (fun e H1 => ∃ tr sr, e = .returned (.iface 68 (pA tr)) ∧ Sat H1 (pt tr (treO sr 0 sr) :: pt sr senO :: [old H])) := by
  have S := Sat.start H
  refine F18.calls ?_
  unfold F18.go
  (repeat (first | (refine Step.go ?_; intros) | refine iteB_t (by decide) ?_ | refine iteB_f (by decide) ?_ | (refine Duo.mk (by first | omega | exact rfl | decide) ?_; intros) | (refine Duo.mk (Clo.mk (by kernel_rfl)) ?_; intros)))
  rename_i sr _ _ tr H1 S1
  exact ⟨tr, sr, rfl, S1⟩
structure TA where
  ok : Bool
  lp : Option Addr
  ln : Nat
  lc : Nat
  vp : Option Addr
  vn : Nat
  vc : Nat
abbrev TA.cells (a : TA) : List Value := [.bool a.ok, .int .i64 0, .int .i64 0, .slice a.lp a.ln a.lc, .slice a.vp a.vn a.vc]
abbrev OPC (x : Int × Int) : List Value := opC x.1 x.2
theorem tree_ok {p : Option Addr} {c : Nat} (hR : RowsAt OPC 10 H p [(1, 4), (3, 0)]) : CallsH Try.prog 12 ⟨[.int .i64 1, .slice p 2 c]⟩ H (fun e H1 => ∃ q k vp vc a0 a1, e = .returned (.slice q 2 k) ∧ a1.ok = true ∧ a1.vp = vp ∧ a1.vn = 1 ∧ a1.vc = vc ∧ Sat H1 (sl TA.cells 41 5 q 2 k [a0, a1] :: sl inC 3 1 vp 1 vc [4] :: [old H])) := by
  have R0 : RowsC H p OPC 10 [(1, 4), (3, 0)] := ⟨hR⟩
  have I0 : HasI [((1 : Int), (4 : Int)), (3, 0)] (0 : Int) (1, 4) := ⟨rfl⟩
  have I1 : HasI [((1 : Int), (4 : Int)), (3, 0)] (1 : Int) (3, 0) := ⟨rfl⟩
  refine F12.calls ?_
  unfold F12.go
  refine callD_i newTree_ok ?_
  rintro e H1 ⟨tr, sr, rfl, S1⟩
  (repeat (first | (refine Step.go ?_; intros) | refine iteB_t (by decide) ?_ | refine iteB_f (by decide) ?_ | (refine Duo.mk (by first | omega | exact rfl | decide) ?_; intros) | (refine Duo.mk (Clo.mk (by kernel_rfl)) ?_; intros)))
  refine F12.L0_step ?_
  unfold F12.L0n
  refine iteB_t rfl ?_
  refine R0.idx rfl ⟨by decide, by decide, ?_⟩
  rintro a rfl
  (repeat (first | (refine Step.go ?_; intros) | refine iteB_t (by decide) ?_ | refine iteB_f (by decide) ?_ | (refine Duo.mk (by first | omega | exact rfl | decide) ?_; intros) | (refine Duo.mk (Clo.mk (by kernel_rfl)) ?_; intros)))
  refine callD_i (treedI S1) ?_
  rintro e H2 ⟨rfl, nb, S2⟩
  have S2' : Sat H2 (sl TA.cells 41 5 none 0 0 [] :: pt tr (treO nb 1 sr) :: pt nb (nodO sr sr 0) :: pt sr senO :: [old H]) := S2.to (.slNil .refl)
  have EN : Enc TA.cells [.bool false, .int .i64 0, .int .i64 0, .slice none 0 0, .slice none 0 0] (⟨false, none, 0, 0, none, 0, 0⟩ : TA) := ⟨rfl⟩
  clear S2
  (repeat (first | (refine Step.go ?_; intros) | refine iteB_t (by decide) ?_ | refine iteB_f (by decide) ?_ | (refine Duo.mk (by first | omega | exact rfl | decide) ?_; intros) | (refine Duo.mk (Clo.mk (by kernel_rfl)) ?_; intros)))
  rename_i r _ _ q k H3 S3
  refine F12.L0_step ?_
  unfold F12.L0n
  have w1 : IntKind.wrap .i64 ((0 : Int) + 1) = 1 := rfl
  rw [w1]
  refine iteB_t rfl ?_
  (repeat (first | (refine Step.go ?_; intros) | refine iteB_t (by decide) ?_ | refine iteB_f (by decide) ?_ | (refine Duo.mk (by first | omega | exact rfl | decide) ?_; intros) | (refine Duo.mk (Clo.mk (by kernel_rfl)) ?_; intros)))
  have S3 : Sat H3 [pt r (.cells ⟨[.bool false, .int .i64 0, .int .i64 0, .slice none 0 0, .slice none 0 0]⟩ 41), sl TA.cells 41 5 q 1 k [⟨false, none, 0, 0, none, 0, 0⟩], pt tr (treO nb 1 sr), pt nb (nodO sr sr 0), pt sr senO, old H] := S3
  have S3' : Sat H3 (pt tr (treO nb 1 sr) :: pt nb (nodO sr sr 0) :: pt sr senO :: sl TA.cells 41 5 q 1 k [⟨false, none, 0, 0, none, 0, 0⟩] :: [old H]) := S3.to Fits.out
  refine callD_i (treedF S3') ?_
  rintro e H4 ⟨lp, lc, vp, vc, rfl, S4⟩
  have EN2 : Enc TA.cells [.bool true, .int .i64 0, .int .i64 0, .slice lp 1 lc, .slice vp 1 vc] (⟨true, lp, 1, lc, vp, 1, vc⟩ : TA) := ⟨rfl⟩
  (repeat (first | (refine Step.go ?_; intros) | refine iteB_t (by decide) ?_ | refine iteB_f (by decide) ?_ | (refine Duo.mk (by first | omega | exact rfl | decide) ?_; intros) | (refine Duo.mk (Clo.mk (by kernel_rfl)) ?_; intros)))
  rename_i r9 _ _ q2 k2 H5 S5
  refine F12.L0_step ?_
  unfold F12.L0n
  have w2 : IntKind.wrap .i64 ((1 : Int) + 1) = 2 := rfl
  rw [w2]
  refine iteB_f rfl ?_
  have S6 : Sat H5 (pt r9 (.cells ⟨[.bool true, .int .i64 0, .int .i64 0, .slice lp 1 lc, .slice vp 1 vc]⟩ 41) :: sl inC 3 1 vp 1 vc [4] :: sl TA.cells 41 5 q2 2 k2 [⟨false, none, 0, 0, none, 0, 0⟩, ⟨true, lp, 1, lc, vp, 1, vc⟩] :: [old H]) := S5
  exact ⟨q2, k2, vp, vc, ⟨false, none, 0, 0, none, 0, 0⟩, ⟨true, lp, 1, lc, vp, 1, vc⟩, rfl, rfl, rfl, rfl, rfl, S6.to Fits.out⟩
theorem trLive_ok : CallsH Try.prog 6 ⟨[]⟩ H (Gives (.bool true) H) := by
  have S := Sat.start H
  refine F6.calls ?_
  unfold F6.go
  (repeat (first | (refine Step.go ?_; intros) | refine iteB_t (by decide) ?_ | refine iteB_f (by decide) ?_ | (refine Duo.mk (by first | omega | exact rfl | decide) ?_; intros) | (refine Duo.mk (Clo.mk (by kernel_rfl)) ?_; intros)))
  rename_i r1 H7 S7
  have R7 : RowsAt OPC 10 H7 (some ⟨r1, 0, none⟩) [(1, 4), (3, 0)] := RowsAt.of_block (S7.at_ (List.mem_cons_self ..)) (by
    intro i x hi j v hj
    have := flat_at (f := OPC) (z := 10) (fun _ _ => rfl) hi hj
    exact this)
  refine callD_i (tree_ok R7) ?_
  rintro e H8 ⟨q, k, vp, vc, a0, a1, rfl, h1, h2, h3, h4, S8⟩
  have E7 : ExtH H H7 := Sat.grown
  obtain ⟨ok1, lp1, ln1, lc1, vp1, vn1, vc1⟩ := a1
  dsimp only at h1 h2 h3 h4
  subst h1 h2 h3 h4
  obtain ⟨r', o', rfl⟩ := S8.slSome (List.mem_cons_self ..) (by decide)
  obtain ⟨r2, o2, rfl⟩ := S8.slSome (List.mem_cons_of_mem _ (List.mem_cons_self ..)) (by decide)
  have I1 : HasI [a0, (⟨true, lp1, ln1, lc1, some ⟨r2, o2, none⟩, 1, vc1⟩ : TA)] (1 : Int) ⟨true, lp1, ln1, lc1, some ⟨r2, o2, none⟩, 1, vc1⟩ := ⟨rfl⟩
  have I2 : HasI [(4 : Int)] (0 : Int) 4 := ⟨rfl⟩
  (repeat (first | (refine Step.go ?_; intros) | refine iteB_t (by decide) ?_ | refine iteB_f (by decide) ?_ | (refine Duo.mk (by first | omega | exact rfl | decide) ?_; intros) | (refine Duo.mk (Clo.mk (by kernel_rfl)) ?_; intros)))
  refine iteB_t rfl ?_
  (repeat (first | (refine Step.go ?_; intros) | refine iteB_t (by decide) ?_ | refine iteB_f (by decide) ?_ | (refine Duo.mk (by first | omega | exact rfl | decide) ?_; intros) | (refine Duo.mk (Clo.mk (by kernel_rfl)) ?_; intros)))
  refine Duo.mk ⟨Int.le_refl 0, by show (0 : Int) < 1; decide⟩ ?_
  (repeat (first | (refine Step.go ?_; intros) | refine iteB_t (by decide) ?_ | refine iteB_f (by decide) ?_ | (refine Duo.mk (by first | omega | exact rfl | decide) ?_; intros) | (refine Duo.mk (Clo.mk (by kernel_rfl)) ?_; intros)))
  exact ⟨rfl, E7.trans Sat.grown⟩
end
end Go.Proofs.Ytjdaencapbjmdaa
