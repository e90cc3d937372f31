/- What functions of this seat do, each proved by a walk; no condition. -/
import Derived.Test.YtkejocbhmcphiaaDoorWQ1
import Derived.Test.YtkejocbhmcphiaaDoorWQ2
set_option linter.unusedVariables false
set_option linter.unusedSimpArgs false
set_option linter.unnecessarySimpa false
set_option maxRecDepth 100000
namespace Go.Proofs.YtkejocbhmcphiaaDoor
open Go Go.Den Go.Proofs
/-! What a law asks of its records. -/
section
variable {H : Heap} {p : Option Addr} {n c : Nat} {rs : List WR}
theorem eqS_eq (a b : ByteArray) : eqS a b = decide (a = b) := by
  unfold eqS
  rw [ByteArray.toList_eq, ByteArray.toList_eq, Bool.eq_iff_iff, decide_eq_true_iff, beq_iff_eq]
  obtain ⟨⟨l⟩⟩ := a
  obtain ⟨⟨m⟩⟩ := b
  exact ⟨fun h => by cases h; rfl, fun h => by cases h; rfl⟩
/-- An answer that is a bool: if true, then so and so; memory only grows. -/
abbrev boolO (Q : Prop) (H : Heap) : Ending → Heap → Prop := fun e H1 => ∃ b, e = .returned (.bool b) ∧ (b = true → Q) ∧ ExtH H H1
theorem good_loop (hR : RowsAt WR.cells 6 H p rs) (hn : rs.length = n) (hn2 : n ≤ 60) : ∀ (d i : Nat) (H1 : Heap), i + d = n → ExtH H H1 → (∀ r ∈ rs.take i, GoodR r) → F7.L1 p n c (n : Int) (i : Int) H1 (boolO (∀ r ∈ rs, GoodR r) H) := by
  intro d
  induction d with
  | zero =>
    intro i H1 hi E hg
    refine F7.L1_step ?_
    unfold F7.L1n
    refine iteB_f (decide_eq_false (by omega)) ?_
    rw [List.take_of_length_le (by omega)] at hg
    exact ⟨true, rfl, fun _ => hg, E⟩
  | succ d ih =>
    intro i H1 hi E hg
    have S := Sat.start H1
    have R : RowsC H1 p WR.cells 6 rs := ⟨hR.ext E⟩
    obtain ⟨r, hr⟩ : ∃ r, rs[i]? = some r := get_of (by omega)
    have hI := HasI.nat hr
    refine F7.L1_step ?_
    unfold F7.L1n
    refine iteB_t (decide_eq_true (by omega)) ?_
    refine R.idx hn ⟨by omega, by omega, fun a ha => ?_⟩
    subst ha
    have e3 : IntKind.wrap .i64 ((i : Int) + (1 : Int)) = ((i + 1 : Nat) : Int) := by rw [wr64 (by omega) (by omega)]; rfl
    have next : ∀ H2, ExtH H H2 → GoodR r → F7.L2 (some a) n c (n : Int) (i : Int) H2 (boolO (∀ r ∈ rs, GoodR r) H) := by
      intro H2 E2 g
      refine F7.L2_step ?_
      unfold F7.L2n
      rw [e3]
      refine ih (i + 1) H2 (by omega) E2 ?_
      intro x hx
      rw [List.take_add_one, hr] at hx
      rcases List.mem_append.1 hx with h | h
      · exact hg x h
      · simp at h; subst h; exact g
    have no : ∀ H2, ExtH H H2 → boolO (∀ r ∈ rs, GoodR r) H (.returned (.bool false)) H2 := fun H2 E2 => ⟨false, rfl, Bool.noConfusion, E2⟩
    (repeat (first | (refine Step.go ?_; intros) | refine iteB_t (by decide) ?_ | refine iteB_f (by decide) ?_ | (refine Duo.mk (by first | omega | exact rfl | decide) ?_; intros) | (refine Duo.mk (Clo.mk (by kernel_rfl)) ?_; intros)))
    rename_i Hz Sz
    have E2 : ExtH H Hz := E.trans (Sz.old (List.mem_cons_of_mem _ (List.mem_cons_self ..)))
    refine iteB_i (fun h1 => no _ E2) (fun h1 => ?_)
    have h1 : r.hasT = true := by simpa using h1
    (repeat (first | (refine Step.go ?_; intros) | refine iteB_t (by decide) ?_ | refine iteB_f (by decide) ?_ | (refine Duo.mk (by first | omega | exact rfl | decide) ?_; intros) | (refine Duo.mk (Clo.mk (by kernel_rfl)) ?_; intros)))
    refine iteB_i (fun h2 => no _ E2) (fun h2 => ?_)
    have h2 : r.data.size ≤ 5000 := by have := of_decide_eq_false h2; omega
    (repeat (first | (refine Step.go ?_; intros) | refine iteB_t (by decide) ?_ | refine iteB_f (by decide) ?_ | (refine Duo.mk (by first | omega | exact rfl | decide) ?_; intros) | (refine Duo.mk (Clo.mk (by kernel_rfl)) ?_; intros)))
    refine iteB_i (fun h3 => ?_) (fun h3 => ?_)
    · have h3 : r.hasD = false := by simpa using h3
      (repeat (first | (refine Step.go ?_; intros) | refine iteB_t (by decide) ?_ | refine iteB_f (by decide) ?_ | (refine Duo.mk (by first | omega | exact rfl | decide) ?_; intros) | (refine Duo.mk (Clo.mk (by kernel_rfl)) ?_; intros)))
      refine iteB_i (fun h4 => no _ E2) (fun h4 => ?_)
      have h4 : r.data = ByteArray.mk #[] := by
        rw [eqS_eq] at h4
        simpa using h4
      (repeat (first | (refine Step.go ?_; intros) | refine iteB_t (by decide) ?_ | refine iteB_f (by decide) ?_ | (refine Duo.mk (by first | omega | exact rfl | decide) ?_; intros) | (refine Duo.mk (Clo.mk (by kernel_rfl)) ?_; intros)))
      refine iteB_i (fun h5 => ?_) (fun h5 => ?_)
      · (repeat (first | (refine Step.go ?_; intros) | refine iteB_t (by decide) ?_ | refine iteB_f (by decide) ?_ | (refine Duo.mk (by first | omega | exact rfl | decide) ?_; intros) | (refine Duo.mk (Clo.mk (by kernel_rfl)) ?_; intros)))
        rw [h3]
        refine iteB_f rfl ?_
        exact next _ E2 ⟨h1, h2, fun _ => h4, fun _ => h3⟩
      · exact next _ E2 ⟨h1, h2, fun _ => h4, fun _ => h3⟩
    · have h3 : r.hasD = true := by simpa using h3
      (repeat (first | (refine Step.go ?_; intros) | refine iteB_t (by decide) ?_ | refine iteB_f (by decide) ?_ | (refine Duo.mk (by first | omega | exact rfl | decide) ?_; intros) | (refine Duo.mk (Clo.mk (by kernel_rfl)) ?_; intros)))
      refine iteB_i (fun h5 => ?_) (fun h5 => ?_)
      · (repeat (first | (refine Step.go ?_; intros) | refine iteB_t (by decide) ?_ | refine iteB_f (by decide) ?_ | (refine Duo.mk (by first | omega | exact rfl | decide) ?_; intros) | (refine Duo.mk (Clo.mk (by kernel_rfl)) ?_; intros)))
        rw [h3]
        refine iteB_t rfl ?_
        exact no _ E2
      · have h5 : r.ty ≠ 4 := by simpa using h5
        exact next _ E2 ⟨h1, h2, fun h => (by rw [h3] at h; cases h), fun h => absurd h h5⟩
theorem good_ok {off : Int} (hR : RowsAt WR.cells 6 H p rs) (hn : rs.length = n) :
    CallsH Tryd.prog 7 ⟨[.slice p n c, .int .i64 off]⟩ H (boolO (n ≤ 60 ∧ (0 ≤ off ∧ off ≤ 1048576) ∧ ∀ r ∈ rs, GoodR r) H) := by
  have no : boolO (n ≤ 60 ∧ (0 ≤ off ∧ off ≤ 1048576) ∧ ∀ r ∈ rs, GoodR r) H (.returned (.bool false)) H := ⟨false, rfl, Bool.noConfusion, ExtH.refl H⟩
  refine F7.calls ?_
  unfold F7.go
  refine iteB_i (fun h1 => no) (fun h1 => ?_)
  have h1 := of_decide_eq_false h1
  refine iteB_i (fun h2 => no) (fun h2 => ?_)
  have h2 := of_decide_eq_false h2
  refine iteB_i (fun h3 => no) (fun h3 => ?_)
  have h3 := of_decide_eq_false h3
  refine F7.L0_step ?_
  unfold F7.L0n
  refine GoL.mono (good_loop hR hn (by omega) n 0 H (by omega) (ExtH.refl H) (by simp)) ?_
  rintro e H1 ⟨b, rfl, h, E⟩
  exact ⟨b, rfl, fun hb => ⟨by omega, ⟨by omega, by omega⟩, h hb⟩, E⟩
theorem fit_ok {r : WR} : CallsH Tryd.prog 17 ⟨[.agg ⟨r.cells⟩]⟩ H (boolO True H) := by
  have S := Sat.start H
  refine F17.calls ?_
  unfold F17.go
  (repeat (first | (refine Step.go ?_; intros) | refine iteB_t (by decide) ?_ | refine iteB_f (by decide) ?_ | (refine Duo.mk (by first | omega | exact rfl | decide) ?_; intros) | (refine Duo.mk (Clo.mk (by kernel_rfl)) ?_; intros)))
  rename_i Hz Sz
  have E2 : ExtH H Hz := Sz.old (List.mem_cons_of_mem _ (List.mem_cons_self ..))
  refine iteB_i (fun h => ⟨false, rfl, fun _ => trivial, E2⟩) (fun h => ⟨true, rfl, fun _ => trivial, E2⟩)
theorem fits_loop (hR : RowsAt WR.cells 6 H p rs) (hn : rs.length = n) (hn2 : n ≤ 2147483647) : ∀ (d i : Nat) (H1 : Heap), i + d = n → ExtH H H1 → F6.L0 p n c (n : Int) (i : Int) H1 (boolO True H) := by
  intro d
  induction d with
  | zero =>
    intro i H1 hi E
    refine F6.L0_step ?_
    unfold F6.L0n
    refine iteB_f (decide_eq_false (by omega)) ?_
    exact ⟨true, rfl, fun _ => trivial, E⟩
  | succ d ih =>
    intro i H1 hi E
    have S := Sat.start H1
    have R : RowsC H1 p WR.cells 6 rs := ⟨hR.ext E⟩
    obtain ⟨r, hr⟩ : ∃ r, rs[i]? = some r := get_of (by omega)
    have hI := HasI.nat hr
    refine F6.L0_step ?_
    unfold F6.L0n
    refine iteB_t (decide_eq_true (by omega)) ?_
    refine R.idx hn ⟨by omega, by omega, fun a ha => ?_⟩
    subst ha
    have e3 : IntKind.wrap .i64 ((i : Int) + (1 : Int)) = ((i + 1 : Nat) : Int) := by rw [wr64 (by omega) (by omega)]; rfl
    (repeat (first | (refine Step.go ?_; intros) | refine iteB_t (by decide) ?_ | refine iteB_f (by decide) ?_ | (refine Duo.mk (by first | omega | exact rfl | decide) ?_; intros) | (refine Duo.mk (Clo.mk (by kernel_rfl)) ?_; intros)))
    rename_i Hz Sz
    have E2 : ExtH H Hz := E.trans (Sz.old (List.mem_cons_of_mem _ (List.mem_cons_self ..)))
    refine call_of (fit_ok (r := r)) ?_
    rintro e H3 ⟨b, rfl, _, E3⟩
    clear S
    (repeat (first | (refine Step.go ?_; intros) | refine iteB_t (by decide) ?_ | refine iteB_f (by decide) ?_ | (refine Duo.mk (by first | omega | exact rfl | decide) ?_; intros) | (refine Duo.mk (Clo.mk (by kernel_rfl)) ?_; intros)))
    refine iteB_i (fun h => ⟨false, rfl, fun _ => trivial, E2.trans E3⟩) (fun h => ?_)
    rw [e3]
    exact ih (i + 1) H3 (by omega) (E2.trans E3)
theorem fits_ok (hR : RowsAt WR.cells 6 H p rs) (hn : rs.length = n) : CallsH Tryd.prog 6 ⟨[.slice p n c]⟩ H (boolO True H) := by
  refine F6.calls ?_
  unfold F6.go
  refine iteB_i (fun h => ⟨false, rfl, fun _ => trivial, ExtH.refl H⟩) (fun h => ?_)
  have h := of_decide_eq_false h
  exact fits_loop hR hn (by omega) n 0 H (by omega) (ExtH.refl H)
/-- The record ahead of all others. -/
def head0 : WR := ⟨4, true, 0, false, ByteArray.mk #[], false⟩
theorem headed_ok {l : List HP} (hR : RowsAt WR.cells 6 H p rs) (hn : rs.length = n) (hn2 : n ≤ 100) (S : Sat H l) :
    CallsH Tryd.prog 8 ⟨[.slice p n c]⟩ H (fun e H1 => ∃ q qc, e = .returned (.slice q (n + 1) qc) ∧ Sat H1 (sl WR.cells 38 6 q (n + 1) qc (head0 :: rs) :: l)) := by
  refine F8.calls ?_
  unfold F8.go newD
  have S1 := S.push (.cells ⟨head0.cells⟩ 38)
  have E1 : ExtH H _ := ExtH.push H (.cells ⟨head0.cells⟩ 38)
  refine Sat.slApp (f := WR.cells) (E := 38) (z := 6) (xs := [head0]) (ys := rs) (m := l) (S1.to (Ent.slClose (f := WR.cells) (z := 6) (n := 1) (c := 1) (pre := []) (sp := []) (xs := [head0]) rfl (by intro x _; rfl) (Nat.le_refl _) rfl (by simp))) ((hR.ext E1).cells (fun _ => rfl)) hn (by intro y _; rfl) ?_ rfl (by decide) (by omega) fun q' c' H2 S2 => ?_
  · intro v hv
    obtain ⟨b, _, hv⟩ := List.mem_flatMap.1 hv
    simp only [WR.cells, List.mem_cons, List.not_mem_nil, or_false] at hv
    rcases hv with rfl | rfl | rfl | rfl | rfl | rfl <;> rfl
  · rw [Nat.add_comm 1 n] at S2 ⊢
    exact ⟨q', c', rfl, S2⟩
end
end Go.Proofs.YtkejocbhmcphiaaDoor

set_option linter.unusedVariables false
set_option linter.unusedSimpArgs false
set_option linter.unnecessarySimpa false
set_option maxRecDepth 100000
namespace Go.Proofs.YtkejocbhmcphiaaDoor
open Go Go.Den Go.Proofs
/-! The reference's own bytes. -/
abbrev strB (xs : List UInt8) : ByteArray := ⟨⟨xs⟩⟩
theorem strB_of (s : ByteArray) : strB s.data.toList = s := rfl
theorem strB_app (xs ys : List UInt8) : strB xs ++ strB ys = strB (xs ++ ys) := by
  apply ByteArray.ext
  rw [ByteArray.data_append]
  simp
theorem cat_i {xs ys : List UInt8} {k : ByteArray → Prop} (h : xs.length + ys.length ≤ 140737488351232) (hk : k (strB (xs ++ ys))) : catD (strB xs) (strB ys) k := by
  refine ⟨?_, by rw [strB_app]; exact hk⟩
  show (((xs.length : Nat) + ys.length : Nat) : Int) ≤ (9223372036854775807 : Int)
  omega
section
variable {H : Heap} {l : List HP}
/-- A text that is given, while memory only grows. -/
abbrev strO (xs : List UInt8) (H : Heap) : Ending → Heap → Prop := Gives (.string (strB xs)) H
theorem varS_loop {H0 : Heap} : ∀ (f m : Nat) (q : Option Addr) (c : Nat) (xs : List UInt8) (H : Heap), m < 128 ^ (f + 1) → m < 18446744073709551616 → xs.length + f ≤ 140737488351100 → Sat H (sl bC 5 1 q xs.length c xs :: old H0 :: []) →
    F28.L0 (m : Int) q xs.length c H (strO (xs ++ vbF (f + 1) m) H0) := by
  have last : ∀ (m : Nat) (q : Option Addr) (c : Nat) (xs : List UInt8) (H : Heap), m < 128 → xs.length ≤ 140737488351100 → Sat H (sl bC 5 1 q xs.length c xs :: old H0 :: []) → newD H (.cells ⟨[.int .u8 (IntKind.wrap .u8 (m : Int))]⟩ 5) fun r1 H3 =>
      apD H3 1 1 [.int .u8 0] 5 q xs.length c (some ⟨r1, 0, none⟩) 1 fun q1 q1n q1c H4 => bsD H4 q1 q1n fun s => strO (xs ++ [bt m]) H0 (.returned (.string s)) H4 := by
    intro m q c xs H hm hx S
    (repeat (first | (refine Step.go ?_; intros) | refine iteB_t (by decide) ?_ | refine iteB_f (by decide) ?_ | (refine Duo.mk (by first | omega | exact rfl | decide) ?_; intros) | (refine Duo.mk (Clo.mk (by kernel_rfl)) ?_; intros)))
    rename_i r H1 S1
    refine apB1 (y := bt m) (m := old H0 :: []) (v := IntKind.wrap .u8 (m : Int)) (by rw [bt_nat, wr8]) (by omega) (S1.to Ent.swp) fun q' c' H2 S2 => ?_
    refine (Rd1.of_sl (List.mem_cons_self ..)).bs S2 rfl ?_
    exact ⟨rfl, S2.old (List.mem_cons_of_mem _ (List.mem_cons_self ..))⟩
  intro f
  induction f with
  | zero =>
    intro m q c xs H hm hm2 hx S
    refine F28.L0_step ?_
    unfold F28.L0n
    refine iteB_f (by simp; omega) ?_
    have e : vbF (0 + 1) m = [bt m] := by rw [vbF]; rw [if_pos (by omega)]
    rw [e]
    exact last m q c xs H (by omega) (by omega) S
  | succ f ih =>
    intro m q c xs H hm hm2 hx S
    refine F28.L0_step ?_
    unfold F28.L0n
    refine iteB_i (fun h => ?_) (fun h => ?_)
    · have h := of_decide_eq_true h
      rw [vb_step hm2]
      (repeat (first | (refine Step.go ?_; intros) | refine iteB_t (by decide) ?_ | refine iteB_f (by decide) ?_ | (refine Duo.mk (by first | omega | exact rfl | decide) ?_; intros) | (refine Duo.mk (Clo.mk (by kernel_rfl)) ?_; intros)))
      rename_i r H1 S1
      refine apB1 (y := bt (m % 128 + 128)) (m := old H0 :: []) (v := ((m % 128 + 128 : Nat) : Int)) (by rw [bt_nat]; omega) (by omega) (S1.to Ent.swp) fun q' c' H2 S2 => ?_
      refine ⟨by decide, ?_⟩
      rw [shr7]
      have e : vbF (f + 1 + 1) m = bt (m % 128 + 128) :: vbF (f + 1) (m / 128) := by rw [vbF]; rw [if_neg (by omega)]
      have := ih (m / 128) q' c' (xs ++ [bt (m % 128 + 128)]) H2 (by rw [Nat.pow_succ] at hm; omega) (by omega) (by simp; omega) S2
      rw [e]
      have e2 : xs ++ [bt (m % 128 + 128)] ++ vbF (f + 1) (m / 128) = xs ++ bt (m % 128 + 128) :: vbF (f + 1) (m / 128) := by simp
      rw [e2] at this
      exact this
    · have h := of_decide_eq_false h
      have e : vbF (f + 1 + 1) m = [bt m] := by rw [vbF]; rw [if_pos (by omega)]
      rw [e]
      exact last m q c xs H (by omega) (by omega) S
theorem varS_ok {m : Nat} {v : Int} (hv : v = (m : Int)) (hm : m < 18446744073709551616) : CallsH Tryd.prog 28 ⟨[.int .u64 v]⟩ H (strO (vb m) H) := by
  subst hv
  refine F28.calls ?_
  unfold F28.go
  have h128 : (128 : Nat) ^ (9 + 1) = 1180591620717411303424 := by decide
  exact varS_loop 9 m none 0 [] H (by rw [h128]; omega) hm (by simp) ((Sat.start H).to (.slNil .refl))
theorem b8 : bt 8 = 8 := rfl
theorem b16 : bt 16 = 16 := rfl
theorem b26 : bt 26 = 26 := rfl
theorem bodyS_ok {r : WR} {s : W32} (g : GoodR r) : CallsH Tryd.prog 16 ⟨[.agg ⟨r.cells⟩, .int .u32 (iv s)]⟩ H (strO (body r.ty s (dat r)) H) := by
  have hs : s.toNat < 18446744073709551616 := by have := s.isLt; omega
  have h1 := vb_len (u64n r.ty)
  have h2 := vb_len s.toNat
  have hd := g.2.1
  have S0 := Sat.start H
  refine F16.calls ?_
  unfold F16.go
  (repeat (first | (refine Step.go ?_; intros) | refine iteB_t (by decide) ?_ | refine iteB_f (by decide) ?_ | (refine Duo.mk (by first | omega | exact rfl | decide) ?_; intros) | (refine Duo.mk (Clo.mk (by kernel_rfl)) ?_; intros)))
  rename_i rr H1 S1
  have E1 : ExtH H H1 := S1.old (List.mem_cons_of_mem _ (List.mem_cons_self ..))
  clear S0
  refine gives_i S1 (varS_ok (wru64_any r.ty) (u64n_lt r.ty)) fun H2 E2 S2 => ?_
  clear S1
  (repeat (first | (refine Step.go ?_; intros) | refine iteB_t (by decide) ?_ | refine iteB_f (by decide) ?_ | (refine Duo.mk (by first | omega | exact rfl | decide) ?_; intros) | (refine Duo.mk (Clo.mk (by kernel_rfl)) ?_; intros)))
  refine cat_i (xs := [8]) (by simp; omega) ?_
  refine cat_i (ys := [16]) (by simp; omega) ?_
  refine gives_i S2 (varS_ok (wru64 hs) hs) fun H3 E3 S3 => ?_
  clear S2
  (repeat (first | (refine Step.go ?_; intros) | refine iteB_t (by decide) ?_ | refine iteB_f (by decide) ?_ | (refine Duo.mk (by first | omega | exact rfl | decide) ?_; intros) | (refine Duo.mk (Clo.mk (by kernel_rfl)) ?_; intros)))
  refine cat_i (by simp; omega) ?_
  (repeat (first | (refine Step.go ?_; intros) | refine iteB_t (by decide) ?_ | refine iteB_f (by decide) ?_ | (refine Duo.mk (by first | omega | exact rfl | decide) ?_; intros) | (refine Duo.mk (Clo.mk (by kernel_rfl)) ?_; intros)))
  have E : ExtH H H3 := (E1.trans E2).trans E3
  cases hD : r.hasD with
  | false =>
    refine iteB_f rfl ?_
    have e : body r.ty s (dat r) = [8] ++ vb (u64n r.ty) ++ [16] ++ vb s.toNat := by
      unfold body dat; rw [hD]; simp [dpart, b8, b16]
    rw [e]
    exact ⟨rfl, E⟩
  | true =>
    refine iteB_t rfl ?_
    (repeat (first | (refine Step.go ?_; intros) | refine iteB_t (by decide) ?_ | refine iteB_f (by decide) ?_ | (refine Duo.mk (by first | omega | exact rfl | decide) ?_; intros) | (refine Duo.mk (Clo.mk (by kernel_rfl)) ?_; intros)))
    have hl : r.data.data.toList.length = r.data.size := rfl
    have h3 := vb_len r.data.size
    refine gives_i S3 (varS_ok (wru64 (n := r.data.size) (by omega)) (by omega)) fun H4 E4 S4 => ?_
    clear S3
    (repeat (first | (refine Step.go ?_; intros) | refine iteB_t (by decide) ?_ | refine iteB_f (by decide) ?_ | (refine Duo.mk (by first | omega | exact rfl | decide) ?_; intros) | (refine Duo.mk (Clo.mk (by kernel_rfl)) ?_; intros)))
    refine cat_i (xs := [26]) (by simp; omega) ?_
    refine cat_i (ys := r.data.data.toList) (by simp; omega) ?_
    refine cat_i (by simp; omega) ?_
    have e : body r.ty s (dat r) = [8] ++ vb (u64n r.ty) ++ [16] ++ vb s.toNat ++ ([26] ++ vb r.data.size ++ r.data.data.toList) := by
      unfold body dat; rw [hD, if_pos rfl]; simp only [dpart, b8, b16, b26, hl]; simp
    rw [e]
    exact ⟨rfl, E.trans E4⟩
/-! the sum -/
theorem sumS_inner {s : ByteArray} {n : Int} {R : Ending → Heap → Prop} (i : Int) : ∀ (d k : Nat) (c : W32), k + d = 8 → F26.L0 s (iv (crcBits d c)) n (IntKind.wrap .i64 (i + (1 : Int))) H R → F26.L1 s (iv c) n i (k : Int) H R := by
  intro d
  induction d with
  | zero =>
    intro k c hk h
    refine F26.L1_step ?_
    unfold F26.L1n
    exact iteB_f (by simp; omega) h
  | succ d ih =>
    intro k c hk h
    refine F26.L1_step ?_
    unfold F26.L1n
    refine iteB_t (by simp; omega) ?_
    have e1 : IntKind.wrap .i64 ((k : Int) + (1 : Int)) = ((k + 1 : Nat) : Int) := by rw [wr64 (by omega) (by omega)]; rfl
    have step : F26.L2 s (iv (crcBit c)) n i (k : Int) H R := by
      refine F26.L2_step ?_
      unfold F26.L2n
      rw [e1]
      exact ih (k + 1) (crcBit c) (by omega) h
    rw [bit_one, shr32, iv_poly, xor32]
    unfold crcBit at step
    refine ⟨by decide, ?_⟩
    by_cases hc : c &&& 1#32 = 1#32
    · rw [if_pos hc] at step
      exact iteB_t (decide_eq_true hc) step
    · rw [if_neg hc] at step
      exact iteB_f (decide_eq_false hc) step
theorem sumS_loop {xs : List UInt8} (hm : xs.length ≤ 140737488351232) (m0 : W32) : ∀ (d i : Nat), i + d = xs.length → F26.L0 (strB xs) (iv ((xs.take i).foldl crcByte m0)) (xs.length : Int) (i : Int) H (fun e H1 => e = .returned (.int .u32 (iv (BitVec.allOnes 32 ^^^ xs.foldl crcByte m0))) ∧ H1 = H) := by
  intro d
  induction d with
  | zero =>
    intro i hi
    refine F26.L0_step ?_
    unfold F26.L0n
    refine iteB_f (by simp; omega) ?_
    rw [List.take_of_length_le (by omega), iv_ones, xor32]
    exact ⟨rfl, rfl⟩
  | succ d ih =>
    intro i hi
    refine F26.L0_step ?_
    unfold F26.L0n
    refine iteB_t (by simp; omega) ?_
    have hx : xs[i]? = some xs[i] := List.getElem?_eq_getElem (by omega)
    refine ⟨by omega, xs[i], ?_, ?_⟩
    · show (strB xs)[i]? = _
      have hlt : i < (strB xs).size := by show i < xs.length; omega
      rw [getElem?_pos (strB xs) i hlt]
      rfl
    · dsimp only
      rw [iv_byte, xor32]
      refine sumS_inner (i : Int) 8 0 _ rfl ?_
      have e1 : IntKind.wrap .i64 ((i : Int) + (1 : Int)) = ((i + 1 : Nat) : Int) := by rw [wr64 (by omega) (by omega)]; rfl
      rw [e1]
      have := ih (i + 1) (by omega)
      rw [List.take_add_one, hx, List.foldl_append] at this
      exact this
theorem sumS_ok {r : WR} {s : W32} (g : GoodR r) : CallsH Tryd.prog 26 ⟨[.int .u32 (iv s), .string r.data]⟩ H (Gives (.int .u32 (iv (stepS s r))) H) := by
  have hd := g.2.1
  have e : datL (dat r) = r.data.data.toList := by
    unfold dat
    cases h : r.hasD with
    | true => rw [if_pos rfl]; rfl
    | false => rw [if_neg (by simp), g.2.2.1 h]; rfl
  refine F26.calls ?_
  unfold F26.go
  rw [iv_ones, xor32]
  refine GoL.mono (sumS_loop (xs := r.data.data.toList) (by show r.data.size ≤ _; omega) (BitVec.allOnes 32 ^^^ s) r.data.size 0 (by simp)) ?_
  rintro en H1 ⟨rfl, rfl⟩
  refine ⟨?_, ExtH.refl _⟩
  unfold stepS crcUpd
  rw [e]
/-! the frame: as long as it is -/
instance {p : Option Addr} {n c : Nat} {E : TypeId} {xs : List UInt8} {k : ByteArray → Prop} [S : Sat H l] [F : SlAt p l (sl bC E 1 p n c xs)] : Step (bsD H p n k) (k (strB xs)) := ⟨fun h => by
  obtain ⟨g, h1, h2⟩ := F.out _ S.out
  have hn : xs.length = n := h1.1
  have R : Rd1 [sl bC E 1 p n c xs] p xs := Rd1.of_sl (List.mem_cons_self ..)
  refine ⟨xs, hn, ?_, h⟩
  exact R.cells ⟨⟨g, h1, h2, trivial⟩⟩⟩
instance {r n : Nat} {E : TypeId} {k : ByteArray → Prop} [S : Sat H l] [A : At r (.cells ⟨repZ [.int .u8 (0 : Int)] n⟩ E) l] : Step (bsD H (some ⟨r, 0, none⟩) n k) (k (strB (zerosB n))) := ⟨fun h => by
  have hb := A.get S
  refine ⟨zerosB n, by unfold zerosB; rw [List.length_replicate], ?_, h⟩
  rw [rep_zeros, flat_bytes] at hb
  exact cellsAt_one hb⟩
abbrev lenO (n : Nat) (H : Heap) : Ending → Heap → Prop := fun e H1 => ∃ s : ByteArray, e = .returned (.string s) ∧ s.size = n ∧ ExtH H H1
theorem frmS_tail {H0 : Heap} {body : List UInt8} {pad : Nat} {top : Int} {q : Option Addr} {c : Nat} {xs : List UInt8} (hx : xs.length = 7) (hp : pad < 8) (ht : ∃ y : UInt8, top = (y.toNat : Int)) (hb : body.length ≤ 1000000000) (S : Sat H (sl bC 5 1 q xs.length c xs :: old H0 :: [])) :
    F27.L1 (strB body) (pad : Int) q xs.length c top H (lenO (8 + (body.length + pad)) H0) := by
  obtain ⟨y, rfl⟩ := ht
  have hz : (zerosB (pad : Int).toNat).length = pad := by unfold zerosB; rw [List.length_replicate, Int.toNat_natCast]
  have h8 : (xs ++ [y]).length = 8 := by simp [hx]
  have fin : ∀ (H1 : Heap) (m : List HP) (_ : Sat H1 m) (_ : old H0 ∈ m), lenO (8 + (body.length + pad)) H0 (.returned (.string (strB (xs ++ [y] ++ body ++ zerosB (pad : Int).toNat)))) H1 := by
    intro H1 m S1 hm
    refine ⟨_, rfl, ?_, S1.old hm⟩
    show (xs ++ [y] ++ body ++ zerosB (pad : Int).toNat).length = _
    rw [List.length_append, List.length_append, hz, h8]; omega
  refine F27.L1_step ?_
  unfold F27.L1n
  refine ⟨?_, ?_, ?_, ?_, ?_, ?_, ?_⟩
  all_goals
    repeat first
      | (refine cat_i (by simp only [List.length_append, hz, hx, List.length_cons, List.length_nil]; omega) ?_)
      | (refine apB1 (y := y) rfl (by omega) (Sat.to ‹Sat _ _› (by
          iterate 2 (apply Ent.pick; (focus (repeat (first | exact Sel.here | apply Sel.there))))
          exact Ent.refl)) ?_; intro _ _ _ _)
      | (refine Step.go ?_; intros)
      | (refine Duo.mk (by first | omega | exact rfl | decide) ?_; intros)
    refine fin _ _ ‹Sat _ _› (by repeat (first | exact List.mem_cons_self .. | apply List.mem_cons_of_mem))
theorem frmS_loop {H0 : Heap} {body : List UInt8} (hb : body.length ≤ 1000000000) : ∀ (d i : Nat) (q : Option Addr) (c : Nat) (xs : List UInt8) (H : Heap), i + d = 7 → xs.length = i → Sat H (sl bC 5 1 q xs.length c xs :: old H0 :: []) →
    F27.L0 (strB body) ((padOf body.length : Nat) : Int) q xs.length c (i : Int) H (lenO (8 + (body.length + padOf body.length)) H0) := by
  have hp := padOf_lt body.length
  intro d
  induction d with
  | zero =>
    intro i q c xs H hi hx S
    refine F27.L0_step ?_
    unfold F27.L0n
    refine iteB_f (decide_eq_false (by omega)) ?_
    refine iteB_i (fun h => ?_) (fun h => ?_)
    · refine frmS_tail (by omega) hp ⟨bt (128 + padOf body.length), ?_⟩ hb S
      rw [bt_nat, wr8, show (128 : Int) = ((128 : Nat) : Int) from rfl, or8 (by omega) (by omega), or_add (k := 7) (by decide) (by omega)]
      omega
    · exact frmS_tail (by omega) hp ⟨0, rfl⟩ hb S
  | succ d ih =>
    intro i q c xs H hi hx S
    refine F27.L0_step ?_
    unfold F27.L0n
    refine iteB_t (decide_eq_true (by omega)) ?_
    have e1 : IntKind.wrap .i64 ((8 : Int) * (i : Int)) = ((8 * i : Nat) : Int) := by rw [wr64 (by omega) (by omega)]; omega
    have e2 : IntKind.wrap .i64 ((i : Int) + (1 : Int)) = ((i + 1 : Nat) : Int) := by rw [wr64 (by omega) (by omega)]; rfl
    have e3 : ((ByteArray.size (strB body) : Nat) : Int) = ((body.length : Nat) : Int) := rfl
    rw [e1, e2, e3, wru64 (by omega), shr64 _ _ (by omega), wr8]
    refine ⟨by omega, ?_⟩
    refine Step.go ?_
    intro r H1 S1
    refine apB1 (y := bt (body.length / 2 ^ (8 * i))) (m := old H0 :: []) (v := ((body.length / 2 ^ (8 * i) % 256 : Nat) : Int)) (by rw [bt_nat]) (by omega) (S1.to Ent.swp) fun q' c' H2 S2 => ?_
    exact ih (i + 1) q' c' _ H2 (by omega) (by simp [hx]) S2
theorem frmS_ok {body : List UInt8} (hb : body.length ≤ 1000000000) : CallsH Tryd.prog 27 ⟨[.string (strB body)]⟩ H (lenO (frameB body).length H) := by
  rw [frameB_len]
  refine F27.calls ?_
  unfold F27.go
  refine ⟨by decide, by decide, ?_⟩
  have e3 : ((ByteArray.size (strB body) : Nat) : Int) = ((body.length : Nat) : Int) := rfl
  rw [e3, pad_i (by omega)]
  exact frmS_loop hb 7 0 none 0 [] H rfl rfl ((Sat.start H).to (.slNil .refl))
end
end Go.Proofs.YtkejocbhmcphiaaDoor

set_option linter.unusedVariables false
set_option linter.unusedSimpArgs false
set_option linter.unnecessarySimpa false
set_option maxRecDepth 100000
namespace Go.Proofs.YtkejocbhmcphiaaDoor
open Go Go.Den Go.Proofs
/-! What the laws make of their records. -/
abbrev stC (s : ByteArray) : List Value := [.string s]
abbrev u3C (w : W32) : List Value := [.int .u32 (iv w)]
instance {s : ByteArray} : Enc stC [.string s] s := ⟨rfl⟩
instance {w : W32} : Enc u3C [.int .u32 (iv w)] w := ⟨rfl⟩
theorem sumsP_snoc : ∀ (rs : List WR) (s : W32) (r : WR), sumsP s (rs ++ [r]) = sumsP s rs ++ [stepS (lastS s rs) r]
  | [], s, r => rfl
  | x :: rs, s, r => by
    simp only [List.cons_append, sumsP, sumsP_snoc rs, lastS, List.foldl_cons]
theorem logP_len : ∀ (rs : List WR) (s : W32), (logP s rs).length = rs.length
  | [], _ => rfl
  | _ :: rs, s => by simp [logP, logP_len rs]
theorem sumsP_len : ∀ (rs : List WR) (s : W32), (sumsP s rs).length = rs.length
  | [], _ => rfl
  | _ :: rs, s => by simp [sumsP, sumsP_len rs]
section
variable {H : Heap} {l : List HP} {q : Option Addr} {n c : Nat} {rs : List WR} {s : W32}
abbrev byO (s : W32) (rs : List WR) (n : Nat) (l : List HP) : Ending → Heap → Prop := fun e H1 => ∃ q1 c1 q2 c2 outs, e = .returned (.tuple ⟨[.slice q1 n c1, .slice q2 n c2]⟩) ∧ outs.map ByteArray.size = (logP s rs).map List.length ∧ Sat H1 (sl stC 9 1 q1 n c1 outs :: sl u3C 22 1 q2 n c2 (sumsP s rs) :: l)
theorem by_loop (hn : rs.length = n) (hn2 : n ≤ 100) (hg : ∀ r ∈ rs, GoodR r) : ∀ (d i : Nat) (o1 o2 : Option Addr) (k1 k2 : Nat) (outs : List ByteArray) (H : Heap), i + d = n → outs.map ByteArray.size = (logP s (rs.take i)).map List.length → Sat H (sl stC 9 1 o1 i k1 outs :: sl u3C 22 1 o2 i k2 (sumsP s (rs.take i)) :: sl WR.cells 38 6 q n c rs :: l) →
    F15.L0 (iv (lastS s (rs.take i))) o1 i k1 o2 i k2 q n c (n : Int) (i : Int) H (byO s rs n (sl WR.cells 38 6 q n c rs :: l)) := by
  intro d
  induction d with
  | zero =>
    intro i o1 o2 k1 k2 outs H hi ho S
    refine F15.L0_step ?_
    unfold F15.L0n
    refine iteB_f (decide_eq_false (by omega)) ?_
    have e : rs.take i = rs := List.take_of_length_le (by omega)
    have hin : i = n := by omega
    subst hin
    rw [e] at ho S
    exact ⟨o1, k1, o2, k2, outs, rfl, ho, S⟩
  | succ d ih =>
    intro i o1 o2 k1 k2 outs H hi ho S
    obtain ⟨r, hr⟩ : ∃ r, rs[i]? = some r := get_of (by omega)
    have hI := HasI.nat hr
    have g := hg r (List.mem_of_getElem? hr)
    have et : rs.take (i + 1) = rs.take i ++ [r] := by rw [List.take_add_one, hr]; rfl
    have e3 : IntKind.wrap .i64 ((i : Int) + (1 : Int)) = ((i + 1 : Nat) : Int) := by rw [wr64 (by omega) (by omega)]; rfl
    have hlen := dat_len g
    refine F15.L0_step ?_
    unfold F15.L0n
    refine iteB_t (decide_eq_true (by omega)) ?_
    refine Sat.idx (f := WR.cells) (E := 38) (z := 6) (xs := rs) S ⟨by omega, by omega, fun r0 o0 hr0 => ?_⟩
    subst hr0
    (repeat (first | (refine Step.go ?_; intros) | refine iteB_t (by decide) ?_ | refine iteB_f (by decide) ?_ | (refine Duo.mk (by first | omega | exact rfl | decide) ?_; intros) | (refine Duo.mk (Clo.mk (by kernel_rfl)) ?_; intros)))
    rename_i Hz Sz
    clear S
    refine gives_i Sz (sumS_ok g) fun H2 E2 S2 => ?_
    clear Sz
    (repeat (first | (refine Step.go ?_; intros) | refine iteB_t (by decide) ?_ | refine iteB_f (by decide) ?_ | (refine Duo.mk (by first | omega | exact rfl | decide) ?_; intros) | (refine Duo.mk (Clo.mk (by kernel_rfl)) ?_; intros)))
    refine gives_i S2 (bodyS_ok g) fun H3 E3 S3 => ?_
    clear S2
    (repeat (first | (refine Step.go ?_; intros) | refine iteB_t (by decide) ?_ | refine iteB_f (by decide) ?_ | (refine Duo.mk (by first | omega | exact rfl | decide) ?_; intros) | (refine Duo.mk (Clo.mk (by kernel_rfl)) ?_; intros)))
    have hbl := body_len r.ty (stepS (lastS s (rs.take i)) r) (dat r)
    refine call_of (frmS_ok (by omega)) ?_
    rintro e H4 ⟨sx, rfl, hsx, E4⟩
    have S4 := S3.ext E4
    clear S3
    (repeat (first | (refine Step.go ?_; intros) | refine iteB_t (by decide) ?_ | refine iteB_f (by decide) ?_ | (refine Duo.mk (by first | omega | exact rfl | decide) ?_; intros) | (refine Duo.mk (Clo.mk (by kernel_rfl)) ?_; intros)))
    have S9 := ‹Sat _ _›
    rw [e3]
    have hih := fun o1 o2 k1 k2 H => ih (i + 1) o1 o2 k1 k2 (outs ++ [sx]) H (by omega) (by rw [et, logP_snoc, List.map_append, List.map_append, ho]; simp only [List.map_cons, List.map_nil, hsx]; rfl)
    rw [et, lastS_snoc, sumsP_snoc] at hih
    refine hih _ _ _ _ _ (S9.to ?_)
    iterate 2 (apply Ent.pick; (focus (repeat (first | exact Sel.here | apply Sel.there))))
    apply Ent.pick; (focus (repeat (first | exact Sel.here | apply Sel.there)))
    exact Fits.out
theorem walbytes_ok (hn2 : n ≤ 100) (hg : ∀ r ∈ rs, GoodR r) (S : Sat H (sl WR.cells 38 6 q n c rs :: l)) : CallsH Tryd.prog 15 ⟨[.int .u32 (iv s), .slice q n c]⟩ H (byO s rs n (sl WR.cells 38 6 q n c rs :: l)) := by
  have hn := (S.slLen (List.mem_cons_self ..)).1
  refine F15.calls ?_
  unfold F15.go
  exact by_loop hn hn2 hg n 0 none none 0 0 [] H (by omega) rfl (S.to (Ent.slNil (Ent.slNil Ent.refl)))
end
end Go.Proofs.YtkejocbhmcphiaaDoor

set_option linter.unusedVariables false
set_option linter.unusedSimpArgs false
set_option linter.unnecessarySimpa false
set_option maxRecDepth 100000
namespace Go.Proofs.YtkejocbhmcphiaaDoor
open Go Go.Den Go.Proofs
/-! Pieces, their join, the last sum, and whether records are the same. -/
section
variable {H : Heap} {l : List HP} {q : Option Addr} {n c : Nat} {rs gs : List WR} {s : W32}
theorem pc_loop {outs : List ByteArray} {q0 q1 : Option Addr} {c0 c1 : Nat} (hn : rs.length = n) (hn2 : n ≤ 100) (hg : ∀ r ∈ rs, GoodR r) (ho : outs.map ByteArray.size = (logP s rs).map List.length) (hc0 : (logB s rs).length ≤ c0) : ∀ (d i : Nat) (o : Option Addr) (k : Nat) (H : Heap), i + d = n →
    Sat H (sl stC 9 1 o i k (((logP s rs).take i).map strB) :: sl stC 9 1 q1 n c1 outs :: sl bC 5 1 q0 (logB s rs).length c0 (logB s rs) :: l) →
    F13.L0 q0 (logB s rs).length c0 0 o i k (((((logP s rs).take i).flatten).length : Nat) : Int) q1 n c1 (n : Int) (i : Int) H (fun e H1 => ∃ o k, e = .returned (.tuple ⟨[.slice o n k, .bool true]⟩) ∧ Sat H1 (sl stC 9 1 o n k ((logP s rs).map strB) :: l)) := by
  have hlp := logP_len rs s
  have hlb := logB_len (s := s) hg
  intro d
  induction d with
  | zero =>
    intro i o k H hi S
    have hin : i = n := by omega
    subst hin
    refine F13.L0_step ?_
    unfold F13.L0n
    refine iteB_f (decide_eq_false (by omega)) ?_
    have e : (logP s rs).take i = logP s rs := List.take_of_length_le (by omega)
    rw [e] at S ⊢
    refine iteB_t (by decide) ?_
    have e2 : ((((logP s rs).flatten.length : Nat) : Int) == (((logB s rs).length : Nat) : Int)) = true := by
      unfold logB; exact beq_self_eq_true _
    rw [e2]
    exact ⟨o, k, rfl, S.to (.cons (.drop (.drop .refl)))⟩
  | succ d ih =>
    intro i o k H hi S
    refine F13.L0_step ?_
    unfold F13.L0n
    refine iteB_t (decide_eq_true (by omega)) ?_
    have hol : outs.length = n := by have := congrArg List.length ho; simpa [hlp, hn] using this
    obtain ⟨x, hx⟩ : ∃ x, outs[i]? = some x := get_of (by omega)
    obtain ⟨P, hP⟩ : ∃ P, (logP s rs)[i]? = some P := get_of (by omega)
    have hxs : x.size = P.length := by
      have := congrArg (·[i]?) ho
      simp only [List.getElem?_map, hx, hP, Option.map_some] at this
      exact Option.some.inj this
    have hI := HasI.nat hx
    have et : (logP s rs).take (i + 1) = (logP s rs).take i ++ [P] := by rw [List.take_add_one, hP]; rfl
    have ed : (logP s rs).drop i = P :: (logP s rs).drop (i + 1) := by
      have hlt : i < (logP s rs).length := by omega
      rw [List.drop_eq_getElem_cons hlt]
      rw [List.getElem?_eq_getElem hlt] at hP
      cases hP; rfl
    have hsplit : logB s rs = ((logP s rs).take i).flatten ++ (P ++ ((logP s rs).drop (i + 1)).flatten) := by
      have : logP s rs = (logP s rs).take i ++ (logP s rs).drop i := (List.take_append_drop i _).symm
      unfold logB
      conv => lhs; rw [this]
      rw [List.flatten_append, ed, List.flatten_cons]
    have hlen := congrArg List.length hsplit
    rw [List.length_append, List.length_append] at hlen
    generalize hA : ((logP s rs).take i).flatten = A at *
    refine Sat.idx (f := stC) (E := 9) (z := 1) (xs := outs) S ⟨by omega, by omega, fun r0 o0 hr0 => ?_⟩
    subst hr0
    refine Step.go ?_
    have e4 : IntKind.wrap .i64 (((A.length : Nat) : Int) + ((x.size : Nat) : Int)) = ((A.length + P.length : Nat) : Int) := by rw [wr64 (by omega) (by omega)]; omega
    have e3 : IntKind.wrap .i64 ((i : Int) + (1 : Int)) = ((i + 1 : Nat) : Int) := by rw [wr64 (by omega) (by omega)]; rfl
    rw [e4, e3]
    refine iteB_f (decide_eq_false (by omega)) ?_
    refine ⟨by omega, by omega, ?_⟩
    rw [Int.toNat_natCast]
    refine ⟨by omega, by omega, ?_⟩
    rw [Int.toNat_natCast]
    have R : Rd1 (sl stC 9 1 o i k (((logP s rs).take i).map strB) :: sl stC 9 1 (some ⟨r0, o0, none⟩) n c1 outs :: sl bC 5 1 q0 (logB s rs).length c0 (logB s rs) :: l) q0 (logB s rs) := Rd1.of_sl (List.mem_cons_of_mem _ (List.mem_cons_of_mem _ (List.mem_cons_self ..)))
    have R2 := (R.drop A.length c0 hc0).take (A.length + P.length - A.length)
    have eP : ((logB s rs).drop A.length).take (A.length + P.length - A.length) = P := by
      rw [hsplit, List.drop_left, show A.length + P.length - A.length = P.length by omega, List.take_left]
    rw [eP] at R2
    dsimp only
    refine R2.bs S (by omega) ?_
    (repeat (first | (refine Step.go ?_; intros) | refine iteB_t (by decide) ?_ | refine iteB_f (by decide) ?_ | (refine Duo.mk (by first | omega | exact rfl | decide) ?_; intros) | (refine Duo.mk (Clo.mk (by kernel_rfl)) ?_; intros)))
    have S9 := ‹Sat _ _›
    have hih := fun o k H => ih (i + 1) o k H (by omega)
    rw [et, List.map_append, List.flatten_append, hA] at hih
    have e5 : (A ++ [P].flatten).length = A.length + P.length := by simp
    rw [e5] at hih
    refine hih _ _ _ (S9.to ?_)
    iterate 3 (apply Ent.pick; (focus (repeat (first | exact Sel.here | apply Sel.there))))
    exact Fits.out
theorem pieces_ok {off : Int} (hn2 : n ≤ 100) (ho : 0 ≤ off ∧ off ≤ 1048576) (hg : ∀ r ∈ rs, GoodR r) (S : Sat H (sl WR.cells 38 6 q n c rs :: l)) :
    CallsH Tryd.prog 13 ⟨[.int .u32 (iv s), .int .i64 off, .slice q n c]⟩ H (fun e H1 => ∃ o k, e = .returned (.tuple ⟨[.slice o n k, .bool true]⟩) ∧ Sat H1 (sl stC 9 1 o n k ((logP s rs).map strB) :: sl WR.cells 38 6 q n c rs :: l)) := by
  have hn := (S.slLen (List.mem_cons_self ..)).1
  refine F13.calls ?_
  unfold F13.go
  refine call_of (walwrite_ok hn2 ho hg S) ?_
  rintro e H1 ⟨b, bc, rfl, S1⟩
  clear S
  (repeat (first | (refine Step.go ?_; intros) | refine iteB_t (by decide) ?_ | refine iteB_f (by decide) ?_ | (refine Duo.mk (by first | omega | exact rfl | decide) ?_; intros) | (refine Duo.mk (Clo.mk (by kernel_rfl)) ?_; intros)))
  have hb := (S1.slLen (List.mem_cons_self ..)).2
  refine call_of (walbytes_ok (s := s) hn2 hg (S1.to Ent.swp)) ?_
  rintro e H2 ⟨q1, c1, q2, c2, outs, rfl, hou, S2⟩
  clear S1
  (repeat (first | (refine Step.go ?_; intros) | refine iteB_t (by decide) ?_ | refine iteB_f (by decide) ?_ | (refine Duo.mk (by first | omega | exact rfl | decide) ?_; intros) | (refine Duo.mk (Clo.mk (by kernel_rfl)) ?_; intros)))
  refine pc_loop (l := sl WR.cells 38 6 q n c rs :: l) hn hn2 hg hou hb n 0 none 0 H2 (by omega) (S2.to ?_)
  refine Ent.slNil ?_
  apply Ent.pick; (focus (repeat (first | exact Sel.here | apply Sel.there)))
  apply Ent.pick; (focus (repeat (first | exact Sel.here | apply Sel.there)))
  exact Ent.drop .refl
/-! joined -/
theorem rows_sl {α : Type} {f : α → List Value} {E : TypeId} {z : Nat} {xs : List α} (S : Sat H l) (hm : sl f E z q n c xs ∈ l) (lo k : Nat) (hlo : lo ≤ n) : RowsAt f z H (slP q lo c z) ((xs.drop lo).take k) := by
  obtain ⟨h, ⟨a1, a2, a3, a4⟩, hs⟩ := S.mem hm
  by_cases hz : (xs.drop lo).take k = []
  · exact .inl hz
  · have hlt : lo < xs.length := by
      rcases Nat.lt_or_ge lo xs.length with h | h
      · exact h
      · rw [List.drop_eq_nil_of_le h] at hz; simp at hz
    rcases a4 with ⟨rfl, rfl⟩ | ⟨r, pre, sp, rfl, hl, hb⟩
    · omega
    · refine .inr ⟨⟨r, pre.length + lo * z, none⟩, by unfold slP; rw [if_neg (by omega)]; simp [add_mk], ?_⟩
      intro i x hi j v hj
      have hx : xs[lo + i]? = some x := by
        rw [List.getElem?_take] at hi
        split at hi
        · rwa [List.getElem?_drop] at hi
        · cases hi
      have hk : sl f E z (some ⟨r, pre.length, none⟩) n c xs h := ⟨a1, a2, a3, .inr ⟨r, pre, sp, rfl, hl, hb⟩⟩
      have := slCell_of hk hs hx hj
      rw [add_mk] at this ⊢
      rw [add_mk]
      have e : pre.length + ((lo + i) * z + j) = pre.length + lo * z + i * z + j := by rw [Nat.add_mul]; omega
      rw [e] at this
      exact this
theorem join_loop {p : Option Addr} {k : Nat} {xs : List (List UInt8)} (hR : RowsAt stC 1 H p (xs.map strB)) (hn : xs.length = n) (hn2 : n ≤ 100) (hl : xs.flatten.length ≤ 1000000000) : ∀ (d i : Nat), i + d = n → F14.L0 (strB (xs.take i).flatten) p n k (n : Int) (i : Int) H (strO xs.flatten H) := by
  intro d
  induction d with
  | zero =>
    intro i hi
    refine F14.L0_step ?_
    unfold F14.L0n
    refine iteB_f (decide_eq_false (by omega)) ?_
    rw [List.take_of_length_le (by omega)]
    exact ⟨rfl, ExtH.refl H⟩
  | succ d ih =>
    intro i hi
    have S := Sat.start H
    have R : RowsC H p stC 1 (xs.map strB) := ⟨hR⟩
    obtain ⟨P, hP⟩ : ∃ P, xs[i]? = some P := get_of (by omega)
    have hx : (xs.map strB)[i]? = some (strB P) := by rw [List.getElem?_map, hP]; rfl
    have hI := HasI.nat hx
    have et : xs.take (i + 1) = xs.take i ++ [P] := by rw [List.take_add_one, hP]; rfl
    have hle : ((xs.take (i + 1)).flatten).length ≤ xs.flatten.length := by
      have : xs.flatten = (xs.take (i + 1)).flatten ++ (xs.drop (i + 1)).flatten := by rw [← List.flatten_append, List.take_append_drop]
      rw [this, List.length_append]; omega
    refine F14.L0_step ?_
    unfold F14.L0n
    refine iteB_t (decide_eq_true (by omega)) ?_
    refine R.idx (by simpa using hn) ⟨by omega, by omega, fun a ha => ?_⟩
    subst ha
    refine Step.go ?_
    have e3 : IntKind.wrap .i64 ((i : Int) + (1 : Int)) = ((i + 1 : Nat) : Int) := by rw [wr64 (by omega) (by omega)]; rfl
    rw [et, List.flatten_append, List.length_append] at hle
    have h1 : ([P] : List (List UInt8)).flatten.length = P.length := by simp
    refine cat_i (by omega) ?_
    rw [e3]
    have := ih (i + 1) (by omega)
    rw [et, List.flatten_append] at this
    simpa using this
theorem join_ok {p : Option Addr} {k : Nat} {xs : List (List UInt8)} (hR : RowsAt stC 1 H p (xs.map strB)) (hn : xs.length = n) (hn2 : n ≤ 100) (hl : xs.flatten.length ≤ 1000000000) :
    CallsH Tryd.prog 14 ⟨[.slice p n k]⟩ H (strO xs.flatten H) := by
  refine F14.calls ?_
  unfold F14.go
  exact join_loop hR hn hn2 hl n 0 (by omega)
/-! the last sum -/
theorem last_loop {p : Option Addr} {k : Nat} {H0 : Heap} (hR : RowsAt WR.cells 6 H0 p rs) (hn : rs.length = n) (hn2 : n ≤ 100) (hg : ∀ r ∈ rs, GoodR r) : ∀ (d i : Nat) (H : Heap), i + d = n → ExtH H0 H → F12.L0 (iv (lastS s (rs.take i))) p n k (n : Int) (i : Int) H (Gives (.int .u32 (iv (lastS s rs))) H0) := by
  intro d
  induction d with
  | zero =>
    intro i H hi E
    refine F12.L0_step ?_
    unfold F12.L0n
    refine iteB_f (decide_eq_false (by omega)) ?_
    rw [List.take_of_length_le (by omega)]
    exact ⟨rfl, E⟩
  | succ d ih =>
    intro i H hi E
    have S := Sat.start H
    have R : RowsC H p WR.cells 6 rs := ⟨hR.ext E⟩
    obtain ⟨r, hr⟩ : ∃ r, rs[i]? = some r := get_of (by omega)
    have hI := HasI.nat hr
    have g := hg r (List.mem_of_getElem? hr)
    have et : rs.take (i + 1) = rs.take i ++ [r] := by rw [List.take_add_one, hr]; rfl
    have e3 : IntKind.wrap .i64 ((i : Int) + (1 : Int)) = ((i + 1 : Nat) : Int) := by rw [wr64 (by omega) (by omega)]; rfl
    refine F12.L0_step ?_
    unfold F12.L0n
    refine iteB_t (decide_eq_true (by omega)) ?_
    refine R.idx hn ⟨by omega, by omega, fun a ha => ?_⟩
    subst ha
    (repeat (first | (refine Step.go ?_; intros) | refine iteB_t (by decide) ?_ | refine iteB_f (by decide) ?_ | (refine Duo.mk (by first | omega | exact rfl | decide) ?_; intros) | (refine Duo.mk (Clo.mk (by kernel_rfl)) ?_; intros)))
    rename_i Hz Sz
    have E2 : ExtH H0 Hz := E.trans (Sz.old (List.mem_cons_of_mem _ (List.mem_cons_self ..)))
    refine gives_i Sz (sumS_ok g) fun H2 E3 S2 => ?_
    clear Sz S
    (repeat (first | (refine Step.go ?_; intros) | refine iteB_t (by decide) ?_ | refine iteB_f (by decide) ?_ | (refine Duo.mk (by first | omega | exact rfl | decide) ?_; intros) | (refine Duo.mk (Clo.mk (by kernel_rfl)) ?_; intros)))
    rw [e3]
    have := ih (i + 1) H2 (by omega) (E2.trans E3)
    rw [et, lastS_snoc] at this
    exact this
theorem last_ok {p : Option Addr} {k : Nat} (hR : RowsAt WR.cells 6 H p rs) (hn : rs.length = n) (hn2 : n ≤ 100) (hg : ∀ r ∈ rs, GoodR r) : CallsH Tryd.prog 12 ⟨[.int .u32 (iv s), .slice p n k]⟩ H (Gives (.int .u32 (iv (lastS s rs))) H) := by
  refine F12.calls ?_
  unfold F12.go
  exact last_loop hR hn hn2 hg n 0 H (by omega) (ExtH.refl H)
/-! the same -/
theorem GotAll.at : ∀ {rs : List WR} {s : W32} {gs : List WR} {i : Nat} {r : WR}, GotAll s rs gs → rs[i]? = some r → ∃ g w, gs[i]? = some g ∧ (sumsP s rs)[i]? = some w ∧ Got w r g
  | [], s, gs, i, r, h, hr => by simp at hr
  | x :: rs, s, gs, 0, r, ⟨g, gs', e, h1, h2⟩, hr => by
    subst e
    simp at hr
    subst hr
    exact ⟨g, _, rfl, rfl, h1⟩
  | x :: rs, s, gs, i + 1, r, ⟨g, gs', e, h1, h2⟩, hr => by
    subst e
    obtain ⟨g', w, a, b, c⟩ := GotAll.at h2 (i := i) (by simpa using hr)
    exact ⟨g', w, by simpa using a, by simpa [sumsP] using b, c⟩
theorem same_loop {p q2 : Option Addr} {k k2 : Nat} (hG : GotAll s rs gs) (hn : rs.length = n) (hn2 : n ≤ 100) : ∀ (d i : Nat) (H : Heap), i + d = n →
    Sat H (sl WR.cells 38 6 p n k gs :: sl u3C 22 1 q2 n k2 (sumsP s rs) :: sl WR.cells 38 6 q n c rs :: l) →
    F11.L0 p n k q2 n k2 q n c (n : Int) (i : Int) H (fun e H1 => e = .returned (.bool true) ∧ Sat H1 (sl WR.cells 38 6 q n c rs :: l)) := by
  intro d
  induction d with
  | zero =>
    intro i H hi S
    refine F11.L0_step ?_
    unfold F11.L0n
    refine iteB_f (decide_eq_false (by omega)) ?_
    exact ⟨rfl, S.to (.drop (.drop .refl))⟩
  | succ d ih =>
    intro i H hi S
    obtain ⟨r, hr⟩ : ∃ r, rs[i]? = some r := get_of (by omega)
    obtain ⟨g, w, hgi, hw, a1, a2, a3, a4, a5⟩ := hG.at hr
    have hI := HasI.nat hr
    have hI2 := HasI.nat hgi
    have hI3 := HasI.nat hw
    have e3 : IntKind.wrap .i64 ((i : Int) + (1 : Int)) = ((i + 1 : Nat) : Int) := by rw [wr64 (by omega) (by omega)]; rfl
    refine F11.L0_step ?_
    unfold F11.L0n
    refine iteB_t (decide_eq_true (by omega)) ?_
    refine Sat.idx (f := WR.cells) (E := 38) (z := 6) (xs := rs) S ⟨by omega, by omega, fun r0 o0 hr0 => ?_⟩
    subst hr0
    (repeat (first | (refine Step.go ?_; intros) | refine iteB_t (by decide) ?_ | refine iteB_f (by decide) ?_ | (refine Duo.mk (by first | omega | exact rfl | decide) ?_; intros) | (refine Duo.mk (Clo.mk (by kernel_rfl)) ?_; intros)))
    rename_i Hz Sz
    clear S
    refine Sat.idx (f := WR.cells) (E := 38) (z := 6) (xs := gs) Sz ⟨by omega, by omega, fun r1 o1 hr1 => ?_⟩
    subst hr1
    (repeat (first | (refine Step.go ?_; intros) | refine iteB_t (by decide) ?_ | refine iteB_f (by decide) ?_ | (refine Duo.mk (by first | omega | exact rfl | decide) ?_; intros) | (refine Duo.mk (Clo.mk (by kernel_rfl)) ?_; intros)))
    rename_i Hy Sy
    clear Sz
    rw [a2]
    refine iteB_f rfl ?_
    (repeat (first | (refine Step.go ?_; intros) | refine iteB_t (by decide) ?_ | refine iteB_f (by decide) ?_ | (refine Duo.mk (by first | omega | exact rfl | decide) ?_; intros) | (refine Duo.mk (Clo.mk (by kernel_rfl)) ?_; intros)))
    refine iteB_f (by rw [a1]; simp) ?_
    (repeat (first | (refine Step.go ?_; intros) | refine iteB_t (by decide) ?_ | refine iteB_f (by decide) ?_ | (refine Duo.mk (by first | omega | exact rfl | decide) ?_; intros) | (refine Duo.mk (Clo.mk (by kernel_rfl)) ?_; intros)))
    refine iteB_f (by rw [a5, eqS_eq]; simp) ?_
    (repeat (first | (refine Step.go ?_; intros) | refine iteB_t (by decide) ?_ | refine iteB_f (by decide) ?_ | (refine Duo.mk (by first | omega | exact rfl | decide) ?_; intros) | (refine Duo.mk (Clo.mk (by kernel_rfl)) ?_; intros)))
    rw [a4]
    refine iteB_f rfl ?_
    refine Sat.idx (f := u3C) (E := 22) (z := 1) (xs := sumsP s rs) Sy ⟨by omega, by omega, fun r2 o2 hr2 => ?_⟩
    subst hr2
    (repeat (first | (refine Step.go ?_; intros) | refine iteB_t (by decide) ?_ | refine iteB_f (by decide) ?_ | (refine Duo.mk (by first | omega | exact rfl | decide) ?_; intros) | (refine Duo.mk (Clo.mk (by kernel_rfl)) ?_; intros)))
    refine iteB_f (by rw [a3]; simp) ?_
    refine F11.L1_step ?_
    unfold F11.L1n
    rw [e3]
    refine ih (i + 1) _ (by omega) (Sy.to ?_)
    exact .drop (.drop .refl)
theorem same_ok {p : Option Addr} {k : Nat} (hG : GotAll s rs gs) (hn2 : n ≤ 100) (hg : ∀ r ∈ rs, GoodR r) (S : Sat H (sl WR.cells 38 6 p gs.length k gs :: sl WR.cells 38 6 q n c rs :: l)) :
    CallsH Tryd.prog 11 ⟨[.slice p gs.length k, .slice q n c, .int .u32 (iv s)]⟩ H (fun e H1 => e = .returned (.bool true) ∧ Sat H1 (sl WR.cells 38 6 q n c rs :: l)) := by
  have hn := (S.slLen (List.mem_cons_of_mem _ (List.mem_cons_self ..))).1
  have hgl := hG.len
  have hgn : gs.length = n := by omega
  rw [hgn] at S ⊢
  refine F11.calls ?_
  unfold F11.go
  refine iteB_f (by simp) ?_
  refine call_of (walbytes_ok (s := s) hn2 hg (S.to Ent.swp)) ?_
  rintro e H2 ⟨q1, c1, q2, c2, outs, rfl, hou, S2⟩
  clear S
  (repeat (first | (refine Step.go ?_; intros) | refine iteB_t (by decide) ?_ | refine iteB_f (by decide) ?_ | (refine Duo.mk (by first | omega | exact rfl | decide) ?_; intros) | (refine Duo.mk (Clo.mk (by kernel_rfl)) ?_; intros)))
  refine same_loop (l := l) hG hn hn2 n 0 H2 (by omega) (S2.to ?_)
  apply Ent.pick; (focus (repeat (first | exact Sel.here | apply Sel.there)))
  apply Ent.pick; (focus (repeat (first | exact Sel.here | apply Sel.there)))
  exact Ent.drop .refl
end
end Go.Proofs.YtkejocbhmcphiaaDoor
