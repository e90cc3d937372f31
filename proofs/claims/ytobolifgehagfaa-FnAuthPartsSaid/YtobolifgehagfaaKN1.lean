/- What functions of this seat do, each proved by a walk; no condition. -/
import Derived.Test.YtobolifgehagfaaJM3
import Derived.Test.YtobolifgehagfaaKA
set_option linter.unusedVariables false
set_option linter.unusedSimpArgs false
set_option linter.unnecessarySimpa false
namespace Go.Proofs.Ytobolifgehagfaa
open Go Go.Den Go.Proofs
/-! Whether a tree has something in common with an interval. -/
theorem mx2_at {o : Int} {e : EN} {a : Option EN} : mx2 o e a = e ∨ ∃ x, a = some x ∧ mx2 o e a = x := by
  cases a with
  | none => exact .inl rfl
  | some a =>
    unfold mx2
    dsimp only
    split
    · exact .inr ⟨a, rfl, rfl⟩
    · exact .inl rfl
theorem mx_at {o : Int} : ∀ (T : Tr) (m : EN), T.mx o = some m → ∃ x ∈ T.inL, x.E = m
  | .nil, m, h => by cases h
  | .node it c l r, m, h => by
    have h : mx3 o it.E (l.mx o) (r.mx o) = m := by simpa [Tr.mx] using h
    unfold mx3 at h
    rcases mx2_at (o := o) (e := mx2 o it.E (l.mx o)) (a := r.mx o) with h1 | ⟨x, h1, h2⟩
    · rw [h1] at h
      rcases mx2_at (o := o) (e := it.E) (a := l.mx o) with h3 | ⟨x, h3, h4⟩
      · rw [h3] at h
        exact ⟨it, by simp [Tr.inL], h⟩
      · rw [h4] at h
        subst h
        obtain ⟨y, hy, hE⟩ := mx_at l x h3
        exact ⟨y, by simp [Tr.inL, hy], hE⟩
    · rw [h2] at h
      subst h
      obtain ⟨y, hy, hE⟩ := mx_at r x h1
      exact ⟨y, by simp [Tr.inL, hy], hE⟩
def hitsT (o : Int) (B E : EN) (T : Tr) : Bool := T.inL.any (meetI o B E)
theorem cmpI_zero {o : Int} {b e b2 e2 : EN} (h1 : ltE o b e = true) (h2 : ltE o b2 e2 = true) : (cmpI o b e b2 e2 = 0) ↔ (ltE o b e2 && ltE o b2 e) = true := by
  rw [cmpI_law h1 h2]
  cases ltE o b e2 && ltE o b2 e with
  | true => simp
  | false =>
    simp only [Bool.false_eq_true, if_false, iff_false]
    split <;> simp
/-- The way that the search takes. -/
theorem hits_left {o : Int} {B E : EN} {it : It} {c : Bool} {t u : Tr} {m : EN} (hp : ltE o B E = true) (hs : Srt o (Tr.node it c t u).inL) (hx : ∀ x ∈ (Tr.node it c t u).inL, ltE o x.B x.E = true) (hn : meetI o B E it = false) (hm : t.mx o = some m) (hlt : ltE o B m = true) :
    hitsT o B E (.node it c t u) = hitsT o B E t := by
  unfold hitsT
  rw [Tr.inL, List.any_append, List.any_cons, hn, Bool.false_or]
  cases ht : t.inL.any (meetI o B E) with
  | true => rfl
  | false =>
    rw [Bool.false_or]
    -- the left one that reaches farthest begins behind all
    obtain ⟨y, hy, hE⟩ := mx_at t m hm
    have hym : meetI o B E y = false := by
      rw [List.any_eq_false] at ht
      have := ht y hy
      simpa using this
    unfold meetI at hym
    rw [hE, hlt, Bool.true_and] at hym
    rw [List.any_eq_false]
    intro z hz
    unfold Srt at hs
    rw [Tr.inL, List.pairwise_append] at hs
    have h1 := hs.2.2 y hy z (List.mem_cons_of_mem _ hz)
    unfold goL at h1
    simp only [Bool.or_eq_false_iff] at h1
    unfold meetI
    rw [nlt_trans hym h1.1]
    simp
theorem hits_right {o : Int} {B E : EN} {it : It} {c : Bool} {t u : Tr} (hn : meetI o B E it = false) (hm : ∀ m, t.mx o = some m → ltE o B m = false) :
    hitsT o B E (.node it c t u) = hitsT o B E u := by
  unfold hitsT
  rw [Tr.inL, List.any_append, List.any_cons, hn, Bool.false_or]
  have : t.inL.any (meetI o B E) = false := by
    rw [List.any_eq_false]
    intro z hz
    cases ht : t.mx o with
    | none => cases t with
      | nil => cases hz
      | node _ _ _ _ => simp [Tr.mx] at ht
    | some m =>
      have h1 := mx_up t m ht z hz
      unfold meetI
      rw [nlt_trans h1 (hm m ht)]
      simp
  rw [this, Bool.false_or]
section
variable {H : Heap} {g : PH} {o : Int} {sr tp : Nat} {n : Int} {i j : IV} {B E : EN}
theorem inter_loop {rt vb : Nat} {H0 : Heap} (hi : IsG g o i B) (hj : IsG g o j E) (hp : ltE o B E = true) : ∀ (t : Tr) (p : Nat) (H : Heap), Srt o t.inL → (∀ x ∈ t.inL, ltE o x.B x.E = true) → ExtH H0 H → TrH H g o sr p t → Blk H tp (treO rt n sr) → Blk H sr senO → Blk H vb (.cells ⟨[i.v, j.v]⟩ 109) → PH.sub g (PH.of H) →
    F143.L0 (some (aA tp)) vb (some (aA (t.ref sr))) H (Gives (.bool (hitsT o B E t)) H0) := by
  intro t
  induction t with
  | nil =>
    intro p H hs hx E0 hT b1 b2 b3 hg
    refine F143.L0_step ?_
    unfold F143.L0n
    (repeat (first | (refine Step.go ?_; intros) | refine iteB_t (by decide) ?_ | refine iteB_f (by decide) ?_ | (refine Duo.mk (by first | omega | exact rfl | decide) ?_; intros) | (refine Duo.mk (Clo.mk (by kernel_rfl)) ?_; intros)))
    refine pq_same ?_
    (repeat (first | (refine Step.go ?_; intros) | refine iteB_t (by decide) ?_ | refine iteB_f (by decide) ?_ | (refine Duo.mk (by first | omega | exact rfl | decide) ?_; intros) | (refine Duo.mk (Clo.mk (by kernel_rfl)) ?_; intros)))
    refine F143.L1_step ?_
    unfold F143.L1n
    (repeat (first | (refine Step.go ?_; intros) | refine iteB_t (by decide) ?_ | refine iteB_f (by decide) ?_ | (refine Duo.mk (by first | omega | exact rfl | decide) ?_; intros) | (refine Duo.mk (Clo.mk (by kernel_rfl)) ?_; intros)))
    refine pq_same ?_
    exact ⟨rfl, E0⟩
  | node it c t u ih1 ih2 =>
    intro p H hs hx E0 hT b1 b2 b3 hg
    obtain ⟨h1, h2, ⟨m, h3, h4⟩, h5, h6⟩ := hT
    have hpi := hx it (by simp [Tr.inL])
    have hs' := hs
    unfold Srt at hs'
    rw [Tr.inL, List.pairwise_append] at hs'
    obtain ⟨s1, s2, s3⟩ := hs'
    rw [List.pairwise_cons] at s2
    have S := Sat.start H
    refine F143.L0_step ?_
    unfold F143.L0n
    dsimp only [Tr.ref]
    (repeat (first | (refine Step.go ?_; intros) | refine iteB_t (by decide) ?_ | refine iteB_f (by decide) ?_ | (refine Duo.mk (by first | omega | exact rfl | decide) ?_; intros) | (refine Duo.mk (Clo.mk (by kernel_rfl)) ?_; intros)))
    refine pq_ne h2 h4.out b2.out ?_
    (repeat (first | (refine Step.go ?_; intros) | refine iteB_t (by decide) ?_ | refine iteB_f (by decide) ?_ | (refine Duo.mk (by first | omega | exact rfl | decide) ?_; intros) | (refine Duo.mk (Clo.mk (by kernel_rfl)) ?_; intros)))
    refine call_of (compareC b3 h4 rfl rfl rfl rfl (hi H hg) (hj H hg) (h1.1 H hg) (h1.2 H hg)) ?_
    rintro _ H1 ⟨rfl, E1⟩
    have E01 := E0.trans E1
    have b1' := b1.ext E1
    have b2' := b2.ext E1
    have b3' := b3.ext E1
    have h4' := h4.ext E1
    have h5' := h5.ext E1
    have h6' := h6.ext E1
    have hg' := subExt hg E1
    (repeat (first | (refine Step.go ?_; intros) | refine iteB_t (by decide) ?_ | refine iteB_f (by decide) ?_ | (refine Duo.mk (by first | omega | exact rfl | decide) ?_; intros) | (refine Duo.mk (Clo.mk (by kernel_rfl)) ?_; intros)))
    refine iteB_i (fun h => ?_) (fun h => ?_)
    · have hn : meetI o B E it = false := by
        cases hm : meetI o B E it with
        | false => rfl
        | true =>
          have := (cmpI_zero hp hpi).2 hm
          rw [this] at h; simp at h
      have right : ∀ H2, ExtH H1 H2 → (∀ m, t.mx o = some m → ltE o B m = false) → F143.L3 (some (aA tp)) vb (some (aA it.r)) H2 (Gives (.bool (hitsT o B E (.node it c t u))) H0) := by
        intro H2 E2 hm
        have h4'' := h4'.ext E2
        refine F143.L3_step ?_
        unfold F143.L3n
        (repeat (first | (refine Step.go ?_; intros) | refine iteB_t (by decide) ?_ | refine iteB_f (by decide) ?_ | (refine Duo.mk (by first | omega | exact rfl | decide) ?_; intros) | (refine Duo.mk (Clo.mk (by kernel_rfl)) ?_; intros)))
        rw [hits_right hn hm]
        exact ih2 it.r H2 s2.2 (fun x hx' => hx x (by simp [Tr.inL, hx'])) (E01.trans E2) (h6'.ext E2) (b1'.ext E2) (b2'.ext E2) (b3'.ext E2) (subExt hg' E2)
      refine F143.L2_step ?_
      unfold F143.L2n
      (repeat (first | (refine Step.go ?_; intros) | refine iteB_t (by decide) ?_ | refine iteB_f (by decide) ?_ | (refine Duo.mk (by first | omega | exact rfl | decide) ?_; intros) | (refine Duo.mk (Clo.mk (by kernel_rfl)) ?_; intros)))
      cases t with
      | nil =>
        refine pq_same ?_
        (repeat (first | (refine Step.go ?_; intros) | refine iteB_t (by decide) ?_ | refine iteB_f (by decide) ?_ | (refine Duo.mk (by first | omega | exact rfl | decide) ?_; intros) | (refine Duo.mk (Clo.mk (by kernel_rfl)) ?_; intros)))
        exact right H1 (ExtH.refl H1) (fun m hm => by cases hm)
      | node ti tc tl tu =>
        obtain ⟨k1, k2, ⟨tm, ⟨M, tm1, tm2⟩, k4⟩, k5, k6⟩ := h5'
        dsimp only [Tr.ref]
        dsimp only [Tr.ref] at h4'
        refine pq_ne k2 k4.out b2'.out ?_
        have S1 := Sat.start H1
        (repeat (first | (refine Step.go ?_; intros) | refine iteB_t (by decide) ?_ | refine iteB_f (by decide) ?_ | (refine Duo.mk (by first | omega | exact rfl | decide) ?_; intros) | (refine Duo.mk (Clo.mk (by kernel_rfl)) ?_; intros)))
        refine cmpH hg' tm1 hi S1 fun H2 E2 S2 => ?_
        have h4'' := h4'.ext E2
        (repeat (first | (refine Step.go ?_; intros) | refine iteB_t (by decide) ?_ | refine iteB_f (by decide) ?_ | (refine Duo.mk (by first | omega | exact rfl | decide) ?_; intros) | (refine Duo.mk (Clo.mk (by kernel_rfl)) ?_; intros)))
        rw [cmpE_pos, tm2.lt_r]
        refine iteB_i (fun h7 => ?_) (fun h7 => ?_)
        · refine F143.L4_step ?_
          unfold F143.L4n
          (repeat (first | (refine Step.go ?_; intros) | refine iteB_t (by decide) ?_ | refine iteB_f (by decide) ?_ | (refine Duo.mk (by first | omega | exact rfl | decide) ?_; intros) | (refine Duo.mk (Clo.mk (by kernel_rfl)) ?_; intros)))
          rw [hits_left hp hs hx hn rfl h7]
          exact ih1 it.r H2 s1 (fun x hx' => hx x (by simp only [Tr.inL, List.mem_append] at hx' ⊢; exact .inl hx')) (E01.trans E2) ((show TrH H1 g o sr it.r (.node ti tc tl tu) from ⟨k1, k2, ⟨tm, ⟨M, tm1, tm2⟩, k4⟩, k5, k6⟩).ext E2) (b1'.ext E2) (b2'.ext E2) (b3'.ext E2) (subExt hg' E2)
        · exact right H2 E2 (fun m hm => by cases hm; exact h7)
    · have hyes : meetI o B E it = true := (cmpI_zero hp hpi).1 (by simpa using h)
      have htrue : hitsT o B E (.node it c t u) = true := by
        unfold hitsT
        rw [Tr.inL, List.any_append, List.any_cons, hyes]; simp
      rw [htrue]
      refine F143.L1_step ?_
      unfold F143.L1n
      (repeat (first | (refine Step.go ?_; intros) | refine iteB_t (by decide) ?_ | refine iteB_f (by decide) ?_ | (refine Duo.mk (by first | omega | exact rfl | decide) ?_; intros) | (refine Duo.mk (Clo.mk (by kernel_rfl)) ?_; intros)))
      refine pq_ne h2 h4'.out b2'.out ?_
      exact ⟨rfl, E01⟩
theorem Intersects_ok {T : Tr} (hi : IsG g o i B) (hj : IsG g o j E) (hp : ltE o B E = true) (hs : Srt o T.inL) (hx : ∀ x ∈ T.inL, ltE o x.B x.E = true) (hT : StandT H g o sr tp n T) :
    CallsH Try.prog 143 ⟨[pA tp, .agg ⟨[i.v, j.v]⟩]⟩ H (Gives (.bool (hitsT o B E T)) H) := by
  obtain ⟨t1, t2, t3, t4⟩ := hT
  have S := Sat.start H
  refine F143.calls (iv_0 := i) (iv_1 := j) ?_
  unfold F143.go
  (repeat (first | (refine Step.go ?_; intros) | refine iteB_t (by decide) ?_ | refine iteB_f (by decide) ?_ | (refine Duo.mk (by first | omega | exact rfl | decide) ?_; intros) | (refine Duo.mk (Clo.mk (by kernel_rfl)) ?_; intros)))
  rename_i r H1 S1
  have E1 : ExtH H H1 := Sat.grown
  have t2' := t2.ext E1
  (repeat (first | (refine Step.go ?_; intros) | refine iteB_t (by decide) ?_ | refine iteB_f (by decide) ?_ | (refine Duo.mk (by first | omega | exact rfl | decide) ?_; intros) | (refine Duo.mk (Clo.mk (by kernel_rfl)) ?_; intros)))
  exact inter_loop hi hj hp T sr H1 hs hx E1 (t1.ext E1) t2' (t3.ext E1) ⟨S1.at_ (by simp)⟩ (subExt t4 E1)
end
end Go.Proofs.Ytobolifgehagfaa

set_option linter.unusedVariables false
set_option linter.unusedSimpArgs false
set_option linter.unnecessarySimpa false
namespace Go.Proofs.Ytobolifgehagfaa
open Go Go.Den Go.Proofs
/-! Permissions. -/
structure PM where
  k : Int
  key : ByteArray
  e : ByteArray
abbrev PM.cells (x : PM) : List Value := [.int .i64 x.k, .string x.key, .string x.e]
abbrev bZ : ByteArray := ⟨#[0]⟩
/-- A permission that a role may have. -/
structure ValidPM (x : PM) : Prop where
  k0 : 0 ≤ x.k ∧ x.k ≤ 2
  key : x.key.size ≤ 64 ∧ x.key.size ≠ 0
  e : x.e.size ≤ 64
  rg : x.e.size = 0 ∨ x.e = bZ ∨ ltS x.key x.e = true
theorem eqS_iff {a b : ByteArray} : eqS a b = true ↔ a = b := by
  unfold eqS
  rw [ByteArray.toList_eq, ByteArray.toList_eq, beq_iff_eq]
  constructor
  · intro h
    obtain ⟨⟨l⟩⟩ := a
    obtain ⟨⟨m⟩⟩ := b
    have h : l = m := h
    rw [h]
  · rintro rfl; rfl
section
variable {H H0 : Heap} {l : List HP}
theorem valid_ok (key e : ByteArray) : CallsH Try.prog 31 ⟨[.string key, .string e]⟩ H (fun en H1 => H1 = H ∧ ∃ b, en = .returned (.bool b) ∧ (b = true ↔ (key.size ≠ 0 ∧ (e.size = 0 ∨ e = bZ ∨ ltS key e = true)))) := by
  refine F31.calls ?_
  unfold F31.go
  rw [eqS_nil, eqS_nil]
  refine iteB_i (fun h => ?_) (fun h => ?_)
  · have hk : key.size ≠ 0 := by simpa using h
    refine iteB_i (fun h1 => ?_) (fun h1 => ?_)
    · exact ⟨rfl, true, rfl, by simp [hk, of_decide_eq_true h1]⟩
    · refine iteB_i (fun h2 => ?_) (fun h2 => ?_)
      · exact ⟨rfl, true, rfl, by simp [hk, eqS_iff.1 h2]⟩
      · refine ⟨rfl, _, rfl, ?_⟩
        have h3 : ¬ e = bZ := fun h => by rw [eqS_iff.2 h] at h2; cases h2
        simp [hk, of_decide_eq_false h1, h3]
  · have hk : key.size = 0 := by simpa using h
    exact ⟨rfl, false, rfl, by simp [hk]⟩
theorem fit4 {xs : List PM} {p : Option Addr} {n c : Nat} (hR : RowsAt PM.cells 3 H0 p xs) (hn : xs.length = n) : CallsH Try.prog 9 ⟨[.slice p n c]⟩ H0 (fun e' H1 => ExtH H0 H1 ∧ ∃ r, e' = .returned (.bool r) ∧ (r = true → n ≤ 2147483647)) := by
  refine F9.calls ?_
  unfold F9.go
  refine iteB_i (fun h => ⟨ExtH.refl _, _, rfl, fun h => by cases h⟩) (fun h => ?_)
  have hnb : n ≤ 2147483647 := by have := of_decide_eq_false h; omega
  have R0 : RowsC H0 p PM.cells 3 xs := ⟨hR⟩
  have loop : ∀ (k i : Nat) (H : Heap), i + k = n → ExtH H0 H → F9.L0 p n c (n : Nat) (i : Nat) H (fun e' H1 => ExtH H0 H1 ∧ ∃ r, e' = .returned (.bool r) ∧ (r = true → n ≤ 2147483647)) := by
    intro k
    induction k with
    | zero =>
      intro i H hk E
      refine F9.L0_step ?_
      unfold F9.L0n
      refine iteB_f (by simp; omega) ?_
      exact ⟨E, _, rfl, fun _ => hnb⟩
    | succ k ih =>
      intro i H hk E
      have S := (Sat.start H0).ext E
      obtain ⟨x, hx⟩ : ∃ x, xs[i]? = some x := get_of (by omega)
      have hI := HasI.nat hx
      refine F9.L0_step ?_
      unfold F9.L0n
      refine iteB_t (by simp; omega) ?_
      refine R0.idx hn ⟨by omega, by omega, ?_⟩
      intro a ha
      subst ha
      (repeat (first | (refine Step.go ?_; intros) | refine iteB_t (by decide) ?_ | refine iteB_f (by decide) ?_ | (refine Duo.mk (by first | omega | exact rfl | decide) ?_; intros) | (refine Duo.mk (Clo.mk (by kernel_rfl)) ?_; intros)))
      rename_i H1 S1
      have f3 : CallsH Try.prog 30 ⟨[.agg ⟨x.cells⟩]⟩ H1 (fun e' H2 => ExtH H1 H2 ∧ ∃ r, e' = .returned (.bool r)) := by
        have S := Sat.start H1
        refine F30.calls ?_
        unfold F30.go
        (repeat (first | (refine Step.go ?_; intros) | refine iteB_t (by decide) ?_ | refine iteB_f (by decide) ?_ | (refine Duo.mk (by first | omega | exact rfl | decide) ?_; intros) | (refine Duo.mk (Clo.mk (by kernel_rfl)) ?_; intros)))
        refine iteB_i (fun h => ⟨Sat.grown, _, rfl⟩) (fun h1 => ?_)
        (repeat (first | (refine Step.go ?_; intros) | refine iteB_t (by decide) ?_ | refine iteB_f (by decide) ?_ | (refine Duo.mk (by first | omega | exact rfl | decide) ?_; intros) | (refine Duo.mk (Clo.mk (by kernel_rfl)) ?_; intros)))
        refine iteB_i (fun h => ⟨Sat.grown, _, rfl⟩) (fun h1 => ?_)
        exact ⟨Sat.grown, _, rfl⟩
      have E1 : ExtH H0 H1 := Sat.grown
      refine callD_i f3 ?_
      rintro e H2 ⟨E2, r, rfl⟩
      (repeat (first | (refine Step.go ?_; intros) | refine iteB_t (by decide) ?_ | refine iteB_f (by decide) ?_ | (refine Duo.mk (by first | omega | exact rfl | decide) ?_; intros) | (refine Duo.mk (Clo.mk (by kernel_rfl)) ?_; intros)))
      refine iteB_i (fun h => ⟨E1.trans E2, _, rfl, fun h => by cases h⟩) (fun h => ?_)
      rw [wr (by omega) (by omega), show ((i : Nat) : Int) + 1 = ((i + 1 : Nat) : Int) by omega]
      exact ih (i + 1) H2 (by omega) (E1.trans E2)
  exact loop n 0 H0 (by omega) (ExtH.refl _)
theorem key_ok (s : ByteArray) : CallsH Try.prog 11 ⟨[.string s]⟩ H (fun en H1 => H1 = H ∧ en = .returned (.bool (decide (((ByteArray.size s : Nat) : Int) ≤ (64 : Int))))) := by
  refine F11.calls ?_
  unfold F11.go
  exact ⟨rfl, rfl⟩
theorem perms_ok {xs : List PM} {p : Option Addr} {n c : Nat} (hR : RowsAt PM.cells 3 H0 p xs) (hn : xs.length = n) (hnb : n ≤ 2147483647) : CallsH Try.prog 10 ⟨[.slice p n c]⟩ H0 (fun e' H1 => ExtH H0 H1 ∧ ∃ r, e' = .returned (.bool r) ∧ (r = true → n ≤ 12 ∧ ∀ x ∈ xs, ValidPM x)) := by
  refine F10.calls ?_
  unfold F10.go
  have R0 : RowsC H0 p PM.cells 3 xs := ⟨hR⟩
  have loop : ∀ (k i : Nat) (H : Heap), i + k = n → ExtH H0 H → (∀ j x, xs[j]? = some x → j < i → ValidPM x) → F10.L0 p n c p n c (n : Nat) (i : Nat) H (fun e' H1 => ExtH H0 H1 ∧ ∃ r, e' = .returned (.bool r) ∧ (r = true → n ≤ 12 ∧ ∀ x ∈ xs, ValidPM x)) := by
    intro k
    induction k with
    | zero =>
      intro i H hk E hi
      refine F10.L0_step ?_
      unfold F10.L0n
      refine iteB_f (by simp; omega) ?_
      refine ⟨E, _, rfl, fun h => ⟨by have := of_decide_eq_true h; omega, fun x hx => ?_⟩⟩
      obtain ⟨j, hj⟩ := List.getElem?_of_mem hx
      exact hi j x hj (by have := lt_of hj; omega)
    | succ k ih =>
      intro i H hk E hi
      have S := (Sat.start H0).ext E
      obtain ⟨x, hx⟩ : ∃ x, xs[i]? = some x := get_of (by omega)
      have hI := HasI.nat hx
      refine F10.L0_step ?_
      unfold F10.L0n
      refine iteB_t (by simp; omega) ?_
      refine R0.idx hn ⟨by omega, by omega, ?_⟩
      intro a ha
      subst ha
      (repeat (first | (refine Step.go ?_; intros) | refine iteB_t (by decide) ?_ | refine iteB_f (by decide) ?_ | (refine Duo.mk (by first | omega | exact rfl | decide) ?_; intros) | (refine Duo.mk (Clo.mk (by kernel_rfl)) ?_; intros)))
      rename_i H1 S1
      have E1 : ExtH H0 H1 := Sat.grown
      refine iteB_i (fun h => ⟨E1, _, rfl, fun h => by cases h⟩) (fun h1 => ?_)
      (repeat (first | (refine Step.go ?_; intros) | refine iteB_t (by decide) ?_ | refine iteB_f (by decide) ?_ | (refine Duo.mk (by first | omega | exact rfl | decide) ?_; intros) | (refine Duo.mk (Clo.mk (by kernel_rfl)) ?_; intros)))
      refine iteB_i (fun h => ⟨E1, _, rfl, fun h => by cases h⟩) (fun h2 => ?_)
      have h1 := of_decide_eq_false h1
      have h2 := of_decide_eq_false h2
      (repeat (first | (refine Step.go ?_; intros) | refine iteB_t (by decide) ?_ | refine iteB_f (by decide) ?_ | (refine Duo.mk (by first | omega | exact rfl | decide) ?_; intros) | (refine Duo.mk (Clo.mk (by kernel_rfl)) ?_; intros)))
      refine callD_i (key_ok x.key) ?_
      rintro e H2 ⟨rfl, rfl⟩
      (repeat (first | (refine Step.go ?_; intros) | refine iteB_t (by decide) ?_ | refine iteB_f (by decide) ?_ | (refine Duo.mk (by first | omega | exact rfl | decide) ?_; intros) | (refine Duo.mk (Clo.mk (by kernel_rfl)) ?_; intros)))
      refine iteB_i (fun h => ⟨E1, _, rfl, fun h => by cases h⟩) (fun h3 => ?_)
      have h3 : ((ByteArray.size x.key : Nat) : Int) ≤ 64 := by simpa using h3
      (repeat (first | (refine Step.go ?_; intros) | refine iteB_t (by decide) ?_ | refine iteB_f (by decide) ?_ | (refine Duo.mk (by first | omega | exact rfl | decide) ?_; intros) | (refine Duo.mk (Clo.mk (by kernel_rfl)) ?_; intros)))
      refine callD_i (key_ok x.e) ?_
      rintro e H2 ⟨rfl, rfl⟩
      (repeat (first | (refine Step.go ?_; intros) | refine iteB_t (by decide) ?_ | refine iteB_f (by decide) ?_ | (refine Duo.mk (by first | omega | exact rfl | decide) ?_; intros) | (refine Duo.mk (Clo.mk (by kernel_rfl)) ?_; intros)))
      refine iteB_i (fun h => ⟨E1, _, rfl, fun h => by cases h⟩) (fun h4 => ?_)
      have h4 : ((ByteArray.size x.e : Nat) : Int) ≤ 64 := by simpa using h4
      (repeat (first | (refine Step.go ?_; intros) | refine iteB_t (by decide) ?_ | refine iteB_f (by decide) ?_ | (refine Duo.mk (by first | omega | exact rfl | decide) ?_; intros) | (refine Duo.mk (Clo.mk (by kernel_rfl)) ?_; intros)))
      refine callD_i (valid_ok x.key x.e) ?_
      rintro e H2 ⟨rfl, b, rfl, hb⟩
      (repeat (first | (refine Step.go ?_; intros) | refine iteB_t (by decide) ?_ | refine iteB_f (by decide) ?_ | (refine Duo.mk (by first | omega | exact rfl | decide) ?_; intros) | (refine Duo.mk (Clo.mk (by kernel_rfl)) ?_; intros)))
      refine iteB_i (fun h => ⟨E1, _, rfl, fun h => by cases h⟩) (fun h5 => ?_)
      obtain ⟨h6, h7⟩ := hb.1 (by simpa using h5)
      refine F10.L1_step ?_
      unfold F10.L1n
      rw [wr (by omega) (by omega), show ((i : Nat) : Int) + 1 = ((i + 1 : Nat) : Int) by omega]
      refine ih (i + 1) _ (by omega) E1 fun j y hj hlt => ?_
      by_cases hji : j = i
      · subst hji; rw [hx] at hj; cases hj; exact ⟨⟨by omega, by omega⟩, ⟨by omega, h6⟩, by omega, h7⟩
      · exact hi j y hj (by omega)
  exact loop n 0 H0 (by omega) (ExtH.refl _) (fun j x _ h => by omega)
/-- A permission in memory. -/
def PermAt (H : Heap) (r : Nat) (x : PM) : Prop := ∃ kb kc eb ec kr er kf ef, H[r]? = some (.cells ⟨[.int .i32 x.k, .slice (some (aA kb)) x.key.size kc, .slice (some (aA eb)) x.e.size ec]⟩ 121) ∧
  H[kb]? = some (.cells ⟨bytesOf x.key.data.toList ++ kr⟩ 5 kf) ∧ H[eb]? = some (.cells ⟨bytesOf x.e.data.toList ++ er⟩ 5 ef)
theorem PermAt.ext {H1 : Heap} {r : Nat} {x : PM} (h : PermAt H r x) (e : ExtH H H1) : PermAt H1 r x := by
  obtain ⟨kb, kc, eb, ec, kr, er, kf, ef, h1, h2, h3⟩ := h
  exact ⟨kb, kc, eb, ec, kr, er, kf, ef, e.block_some h1, e.block_some h2, e.block_some h3⟩
theorem order_ok {n : Int} (h : 0 ≤ n ∧ n ≤ 2) : CallsH Try.prog 58 ⟨[.int .i64 n]⟩ H (Gives (.int .i32 n) H) := by
  refine F58.calls ?_
  unfold F58.go
  refine iteB_f (by simp; omega) ?_
  refine iteB_f (by simp; omega) ?_
  rw [wr32 (by omega) (by omega)]
  exact ⟨rfl, ExtH.refl H⟩
/-- A permission in a part of memory. -/
def PermG (g : PH) (r : Nat) (x : PM) : Prop := ∃ kb kc eb ec kr er kf ef, g r = some (.cells ⟨[.int .i32 x.k, .slice (some (aA kb)) x.key.size kc, .slice (some (aA eb)) x.e.size ec]⟩ 121) ∧
  g kb = some (.cells ⟨bytesOf x.key.data.toList ++ kr⟩ 5 kf) ∧ g eb = some (.cells ⟨bytesOf x.e.data.toList ++ er⟩ 5 ef)
theorem PermG.mono {g g' : PH} {r : Nat} {x : PM} (h : PermG g r x) (s : PH.sub g g') : PermG g' r x := by
  obtain ⟨kb, kc, eb, ec, kr, er, kf, ef, h1, h2, h3⟩ := h
  exact ⟨kb, kc, eb, ec, kr, er, kf, ef, s _ _ h1, s _ _ h2, s _ _ h3⟩
theorem PermG.perm {g : PH} {r : Nat} {x : PM} {H : Heap} (h : PermG g r x) (s : PH.sub g (PH.of H)) : PermAt H r x := by
  obtain ⟨kb, kc, eb, ec, kr, er, kf, ef, h1, h2, h3⟩ := h
  exact ⟨kb, kc, eb, ec, kr, er, kf, ef, s _ _ h1, s _ _ h2, s _ _ h3⟩
theorem newOf_at {H H1 : Heap} {r : Nat} {o : Obj} (h : H.size ≤ r) (e : H1[r]? = some o) : newOf H H1 r = some o := by
  unfold newOf
  rw [if_pos h]
  exact e
theorem permIn_ok {x : PM} (hv : ValidPM x) : CallsH Try.prog 32 ⟨[.agg ⟨x.cells⟩]⟩ H (fun e H1 => ∃ r, e = .returned (pA r) ∧ ExtH H H1 ∧ PermG (newOf H H1) r x) := by
  have hk := hv.key.1
  have he := hv.e
  have S := Sat.start H
  refine F32.calls ?_
  unfold F32.go
  (repeat (first | (refine Step.go ?_; intros) | refine iteB_t (by decide) ?_ | refine iteB_f (by decide) ?_ | (refine Duo.mk (by first | omega | exact rfl | decide) ?_; intros) | (refine Duo.mk (Clo.mk (by kernel_rfl)) ?_; intros)))
  rename_i r0 H1 S1
  refine ⟨?_, ?_, ?_, ?_, ?_, ?_⟩
  all_goals
    ((repeat (first | (refine Step.go ?_; intros) | refine iteB_t (by decide) ?_ | refine iteB_f (by decide) ?_ | (refine Duo.mk (by first | omega | exact rfl | decide) ?_; intros) | (refine Duo.mk (Clo.mk (by kernel_rfl)) ?_; intros)))
     refine gives_i (by assumption) (order_ok hv.k0) fun _ _ _ => ?_
     (repeat (first | (refine Step.go ?_; intros) | refine iteB_t (by decide) ?_ | refine iteB_f (by decide) ?_ | (refine Duo.mk (by first | omega | exact rfl | decide) ?_; intros) | (refine Duo.mk (Clo.mk (by kernel_rfl)) ?_; intros)))
     have S9 := ‹Sat _ _›
     exact ⟨_, rfl, Sat.grown, _, _, _, _, _, _, _, _, newOf_at (freshS S9 (by (repeat (first | exact Sel.here | apply Sel.there))) (by (repeat (first | exact Sel.here | apply Sel.there)))) S9.obj, newOf_at (freshS S9 (by (repeat (first | exact Sel.here | apply Sel.there))) (by (repeat (first | exact Sel.here | apply Sel.there)))) S9.obj, newOf_at (freshS S9 (by (repeat (first | exact Sel.here | apply Sel.there))) (by (repeat (first | exact Sel.here | apply Sel.there)))) S9.obj⟩)
end
end Go.Proofs.Ytobolifgehagfaa

set_option linter.unusedVariables false
set_option linter.unusedSimpArgs false
set_option linter.unnecessarySimpa false
namespace Go.Proofs.Ytobolifgehagfaa
open Go Go.Den Go.Proofs
/-! Permissions merged. -/
def begE (x : PM) : EN := (x.key, 0)
def endE (x : PM) : EN := if x.e.size = 0 then (x.key ++ bZ, 0) else if x.e = bZ then (⟨#[]⟩, 0) else (x.e, 0)
theorem bl_snoc : ∀ l : List UInt8, Op.bytesLess l (l ++ [0]) = true
  | [] => rfl
  | a :: l => by
    rw [List.cons_append, Op.bytesLess, bl_snoc l]
    simp
theorem lt_snoc (a : ByteArray) : ltS a (a ++ bZ) = true := by
  unfold ltS
  rw [ByteArray.toList_eq, ByteArray.toList_eq]
  have : (a ++ bZ).data.toList = a.data.toList ++ [0] := by simp
  rw [this]
  exact bl_snoc _
theorem bZ_size : bZ.size = 1 := rfl
theorem aff2 {u v : EN} : ltE 2 u v = if ¬ (u.1.size = 0 ↔ v.1.size = 0) then decide (v.1.size = 0) else ltS u.1 v.1 := by
  unfold ltE
  rw [if_neg (by decide)]
  by_cases h : (u.1.size = 0 ↔ v.1.size = 0)
  · rw [if_neg (fun e => e.2 h), if_neg (fun e => e h)]
  · rw [if_pos ⟨by decide, h⟩, if_pos h]
theorem perm_prop {x : PM} (h : ValidPM x) : ltE 2 (begE x) (endE x) = true := by
  have hk := h.key.2
  rw [aff2]
  unfold begE endE
  dsimp only
  by_cases h1 : x.e.size = 0
  · rw [if_pos h1]
    have : (x.key ++ bZ).size ≠ 0 := by rw [cat_size]; omega
    rw [if_neg (by simp [hk, this])]
    exact lt_snoc _
  · rw [if_neg h1]
    by_cases h2 : x.e = bZ
    · rw [if_pos h2]
      have h0 : (⟨#[]⟩ : ByteArray).size = 0 := rfl
      rw [if_pos (by simp [hk, h0])]
      rfl
    · rw [if_neg h2]
      rw [if_neg (by simp [hk, h1])]
      rcases h.rg with h3 | h3 | h3
      · exact absurd h3 h1
      · exact absurd h3 h2
      · exact h3
def allowR (x : PM) : Bool := decide (x.k = 0) || decide (x.k = 2)
def allowW (x : PM) : Bool := decide (x.k = 1) || decide (x.k = 2)
theorem putI_length {o : Int} {z : It} : ∀ l : List It, (putI o z l).length = l.length + 1
  | [] => rfl
  | x :: l => by
    unfold putI
    split
    · rfl
    · rw [List.length_cons, putI_length l, List.length_cons]
/-- A tree has the ranges of the permissions that are allowed. -/
structure MRel (al : PM → Bool) (xs : List PM) (T : Tr) : Prop where
  wt : Wt 2 T
  len : T.inL.length ≤ xs.length
  one : ∀ it ∈ T.inL, ∃ x ∈ xs, al x = true ∧ it.B = begE x ∧ it.E = endE x
  all : ∀ x ∈ xs, al x = true → ∃ it ∈ T.inL, it.B = begE x ∧ it.E = endE x
theorem MRel.nil (al : PM → Bool) : MRel al [] .nil := ⟨⟨⟨⟨0, rfl⟩, trivial, rfl⟩, List.Pairwise.nil, (fun _ h => by cases h)⟩, Nat.le_refl 0, (fun _ h => by cases h), (fun _ h => by cases h)⟩
theorem MRel.ins {al : PM → Bool} {xs : List PM} {T : Tr} (h : MRel al xs T) {x : PM} (hv : ValidPM x) (ha : al x = true) {z : It} (hB : z.B = begE x) (hE : z.E = endE x) : MRel al (xs ++ [x]) (ins 2 z T) := by
  obtain ⟨a, b⟩ := h.wt.ins (z := z) (by rw [hB, hE]; exact perm_prop hv)
  refine ⟨a, by rw [b, putI_length, List.length_append]; have := h.len; simp; omega, fun it hit => ?_, fun y hy hay => ?_⟩
  · rw [b] at hit
    rcases putI_mem.1 hit with rfl | hit
    · exact ⟨x, by simp, ha, hB, hE⟩
    · obtain ⟨y, hy, h1⟩ := h.one it hit
      exact ⟨y, by simp [hy], h1⟩
  · rw [b]
    rcases List.mem_append.1 hy with hy | hy
    · obtain ⟨it, hit, h1⟩ := h.all y hy hay
      exact ⟨it, putI_mem.2 (.inr hit), h1⟩
    · simp at hy
      subst hy
      exact ⟨z, putI_mem.2 (.inl rfl), hB, hE⟩
theorem MRel.skip {al : PM → Bool} {xs : List PM} {T : Tr} (h : MRel al xs T) {x : PM} (ha : al x = false) : MRel al (xs ++ [x]) T := by
  refine ⟨h.wt, by rw [List.length_append]; have := h.len; omega, fun it hit => ?_, fun y hy hay => ?_⟩
  · obtain ⟨y, hy, h1⟩ := h.one it hit
    exact ⟨y, by simp [hy], h1⟩
  · rcases List.mem_append.1 hy with hy | hy
    · exact h.all y hy hay
    · simp at hy
      subst hy
      rw [ha] at hay; cases hay
theorem extOf {H H0 : Heap} {l : List HP} {g : PH} (S : Sat H l) [G : HasG l g] (h : PH.sub (PH.of H0) g) : ExtH H0 H := by
  have key : ∀ b o, H0[b]? = some o → H[b]? = some o := fun b o e => G.sub S b o (h b o e)
  refine ⟨?_, fun b hb => ?_⟩
  · rcases Nat.lt_or_ge H.size H0.size with hlt | hge
    · have := block_lt (key H.size _ (Array.getElem?_eq_getElem hlt)); omega
    · exact hge
  · rw [key b _ (Array.getElem?_eq_getElem hb), Array.getElem?_eq_getElem hb]
abbrev treI (tp : Nat) : IV := .mk 136 (pA tp)
abbrev unitI : IV := .mk 198 (.agg ⟨[]⟩)
theorem one_byte {b : ByteArray} (h : b.size = 1) : ∃ x, b = ⟨#[x]⟩ := by
  obtain ⟨⟨l⟩⟩ := b
  match l, h with
  | [x], _ => exact ⟨x, rfl⟩
section
variable {H H0 : Heap} {l : List HP}
/-- Two trees side by side, over what stays. -/
abbrev twoT (g : PH) (sr1 tp1 sr2 tp2 : Nat) (n1 n2 : Int) (T1 T2 : Tr) (l : List HP) : List HP :=
  tr g 2 sr1 sr1 T1 :: pt tp1 (treO (T1.ref sr1) n1 sr1) :: pt sr1 senO :: tr g 2 sr2 sr2 T2 :: pt tp2 (treO (T2.ref sr2) n2 sr2) :: pt sr2 senO :: has g :: l
theorem two_more {g : PH} {sr1 tp1 sr2 tp2 : Nat} {n1 n2 : Int} {T1 T2 : Tr} {H1 : Heap} (S : Sat H (twoT g sr1 tp1 sr2 tp2 n1 n2 T1 T2 l)) (E : ExtH H H1) : Sat H1 (twoT (plus g H H1) sr1 tp1 sr2 tp2 n1 n2 T1 T2 l) := by
  have S1 : Sat H1 (has (plus g H H1) :: tr g 2 sr1 sr1 T1 :: pt tp1 (treO (T1.ref sr1) n1 sr1) :: pt sr1 senO :: tr g 2 sr2 sr2 T2 :: pt tp2 (treO (T2.ref sr2) n2 sr2) :: pt sr2 senO :: l) := plus_has (S.to (Ent.bring (by (repeat (first | exact Sel.here | apply Sel.there))))) E
  have S2 : Sat H1 (tr g 2 sr1 sr1 T1 :: tr g 2 sr2 sr2 T2 :: pt tp1 (treO (T1.ref sr1) n1 sr1) :: pt sr1 senO :: pt tp2 (treO (T2.ref sr2) n2 sr2) :: pt sr2 senO :: has (plus g H H1) :: l) := by
    refine S1.to ?_
    iterate 7 (apply Ent.pick; (focus (repeat (first | exact Sel.here | apply Sel.there))))
    exact Ent.refl
  have S3 := S2.to (Ent.trans (tr_mono (g' := plus g H H1) sub_plus_l T1 sr1 _) (Ent.cons (tr_mono (g' := plus g H H1) sub_plus_l T2 sr2 _)))
  refine S3.to ?_
  iterate 7 (apply Ent.pick; (focus (repeat (first | exact Sel.here | apply Sel.there))))
  exact Ent.refl
theorem insOne {g : PH} {sr1 tp1 sr2 tp2 : Nat} {n1 n2 : Int} {T1 T2 : Tr} {i j : IV} {x : PM} {xs : List PM} {Q : List PanicEntry → Heap → Prop} {K : Value → Heap → Prop} (hv : ValidPM x) (hi : IsG g 2 i (begE x)) (hj : IsG g 2 j (endE x)) (M : MRel allowR xs T1) (ha : allowR x = true) (hn : 0 ≤ n1 ∧ n1 ≤ 1000)
    (S : Sat H (twoT g sr1 tp1 sr2 tp2 n1 n2 T1 T2 l)) (k : ∀ H1 T, MRel allowR (xs ++ [x]) T → Sat H1 (twoT g sr1 tp1 sr2 tp2 (n1 + 1) n2 T T2 l) → K (.tuple ⟨[]⟩) H1) :
    callI Try.prog (treI tp1).v "Insert" [.agg ⟨[i.v, j.v]⟩, unitI.v] H Q K := by
  refine callI_i (f := 142) (by kernel_rfl) (by kernel_rfl) (by kernel_rfl) ?_
  have S1 : Sat H (tr g 2 sr1 sr1 T1 :: pt tp1 (treO (T1.ref sr1) n1 sr1) :: pt sr1 senO :: has g :: tr g 2 sr2 sr2 T2 :: pt tp2 (treO (T2.ref sr2) n2 sr2) :: pt sr2 senO :: l) := by
    refine S.to ?_
    iterate 7 (apply Ent.pick; (focus (repeat (first | exact Sel.here | apply Sel.there))))
    exact Ent.refl
  refine callD_i (insert_ok (i := i) (j := j) (v := unitI) (B := begE x) (E := endE x) hi hj M.wt.rb (by omega) S1) ?_
  rintro e H6 ⟨rfl, nb, S7⟩
  refine k H6 _ (M.ins hv ha (z := ⟨nb, i, j, unitI, begE x, endE x⟩) rfl rfl) ?_
  refine S7.to ?_
  iterate 7 (apply Ent.pick; (focus (repeat (first | exact Sel.here | apply Sel.there))))
  exact Ent.refl
theorem insTwo {g : PH} {sr1 tp1 sr2 tp2 : Nat} {n1 n2 : Int} {T1 T2 : Tr} {i j : IV} {x : PM} {xs : List PM} {Q : List PanicEntry → Heap → Prop} {K : Value → Heap → Prop} (hv : ValidPM x) (hi : IsG g 2 i (begE x)) (hj : IsG g 2 j (endE x)) (M : MRel allowW xs T2) (ha : allowW x = true) (hn : 0 ≤ n2 ∧ n2 ≤ 1000)
    (S : Sat H (twoT g sr1 tp1 sr2 tp2 n1 n2 T1 T2 l)) (k : ∀ H1 T, MRel allowW (xs ++ [x]) T → Sat H1 (twoT g sr1 tp1 sr2 tp2 n1 (n2 + 1) T1 T l) → K (.tuple ⟨[]⟩) H1) :
    callI Try.prog (treI tp2).v "Insert" [.agg ⟨[i.v, j.v]⟩, unitI.v] H Q K := by
  refine callI_i (f := 142) (by kernel_rfl) (by kernel_rfl) (by kernel_rfl) ?_
  have S1 : Sat H (tr g 2 sr2 sr2 T2 :: pt tp2 (treO (T2.ref sr2) n2 sr2) :: pt sr2 senO :: has g :: tr g 2 sr1 sr1 T1 :: pt tp1 (treO (T1.ref sr1) n1 sr1) :: pt sr1 senO :: l) := by
    refine S.to ?_
    iterate 7 (apply Ent.pick; (focus (repeat (first | exact Sel.here | apply Sel.there))))
    exact Ent.refl
  refine callD_i (insert_ok (i := i) (j := j) (v := unitI) (B := begE x) (E := endE x) hi hj M.wt.rb (by omega) S1) ?_
  rintro e H6 ⟨rfl, nb, S7⟩
  refine k H6 _ (M.ins hv ha (z := ⟨nb, i, j, unitI, begE x, endE x⟩) rfl rfl) ?_
  refine S7.to ?_
  iterate 7 (apply Ent.pick; (focus (repeat (first | exact Sel.here | apply Sel.there))))
  exact Ent.refl
abbrev ptrN (r : Nat) : List Value := [pA r]
/-- What merging gives. -/
def MergeEnd (H0 : Heap) (xs : List PM) (l : List HP) (e : Ending) (H1 : Heap) : Prop :=
  ∃ (g : PH) (sr1 tp1 sr2 tp2 : Nat) (n1 n2 : Int) (T1 T2 : Tr) (u : Nat), e = .returned (pA u) ∧ PH.sub (PH.of H0) g ∧ MRel allowR xs T1 ∧ MRel allowW xs T2 ∧ Sat H1 (twoT g sr1 tp1 sr2 tp2 n1 n2 T1 T2 (pt u (.cells ⟨[(treI tp1).v, (treI tp2).v]⟩ 200) :: l))
theorem merge_loop {xs : List PM} {rs : List Nat} {q q0 : Option Addr} {qc c0 : Nat} {z : IV} (hR : RowsAt ptrN 1 H0 q rs) (hl : rs.length = xs.length) (hx : xs.length ≤ 12) (hv : ∀ x ∈ xs, ValidPM x) (hP : ∀ (i : Nat) (r : Nat) (x : PM), rs[i]? = some r → xs[i]? = some x → PermAt H0 r x) {sr1 tp1 sr2 tp2 : Nat} :
    ∀ (k i : Nat) (g : PH) (n1 n2 : Int) (T1 T2 : Tr) (H : Heap) (l : List HP), i + k = xs.length → PH.sub (PH.of H0) g → (0 ≤ n1 ∧ n1 ≤ i) → (0 ≤ n2 ∧ n2 ≤ i) → MRel allowR (xs.take i) T1 → MRel allowW (xs.take i) T2 →
    Sat H (twoT g sr1 tp1 sr2 tp2 n1 n2 T1 T2 l) →
    F59.L1 z (treI tp1) (treI tp2) q0 1 c0 (1 : Nat) (0 : Int) q xs.length qc (xs.length : Nat) (i : Nat) H (MergeEnd H0 xs []) := by
  intro k
  induction k with
  | zero =>
    intro i g n1 n2 T1 T2 H l hk hg hn1 hn2 M1 M2 S
    obtain rfl : i = xs.length := by omega
    rw [List.take_length] at M1 M2
    refine F59.L1_step ?_
    unfold F59.L1n
    refine iteB_f (by simp) ?_
    refine F59.L6_step ?_
    unfold F59.L6n
    rw [show IntKind.wrap .i64 ((0 : Int) + 1) = 1 from rfl]
    refine F59.L0_step ?_
    unfold F59.L0n
    refine iteB_f rfl ?_
    (repeat (first | (refine Step.go ?_; intros) | refine iteB_t (by decide) ?_ | refine iteB_f (by decide) ?_ | (refine Duo.mk (by first | omega | exact rfl | decide) ?_; intros) | (refine Duo.mk (Clo.mk (by kernel_rfl)) ?_; intros)))
    rename_i u H1 S1
    refine ⟨g, sr1, tp1, sr2, tp2, n1, n2, T1, T2, u, rfl, hg, M1, M2, S1.to ?_⟩
    iterate 8 (apply Ent.pick; (focus (repeat (first | exact Sel.here | apply Sel.there))))
    exact Ent.nil
  | succ k ih =>
    intro i g n1 n2 T1 T2 H l hk hg hn1 hn2 M1 M2 S
    obtain ⟨r, hr⟩ : ∃ r, rs[i]? = some r := get_of (by omega)
    obtain ⟨x, hxi⟩ : ∃ x, xs[i]? = some x := get_of (by omega)
    have hvx := hv x (List.mem_of_getElem? hxi)
    have E := extOf S hg
    have PA := (hP i r x hr hxi).ext E
    have hI := HasI.nat hr
    have et : xs.take (i + 1) = xs.take i ++ [x] := by
      rw [List.take_add_one, hxi]; rfl
    have l5 : ∀ (g : PH) (n1 n2 : Int) (T1 T2 : Tr) (H : Heap) (l : List HP), PH.sub (PH.of H0) g → (0 ≤ n1 ∧ n1 ≤ (i : Nat) + 1) → (0 ≤ n2 ∧ n2 ≤ (i : Nat) + 1) → MRel allowR (xs.take i ++ [x]) T1 → MRel allowW (xs.take i ++ [x]) T2 →
        Sat H (twoT g sr1 tp1 sr2 tp2 n1 n2 T1 T2 l) → F59.L5 z (treI tp1) (treI tp2) q0 1 c0 (1 : Nat) (0 : Int) q xs.length qc (xs.length : Nat) (i : Nat) H (MergeEnd H0 xs []) := by
      intro g n1 n2 T1 T2 H l hg hn1 hn2 M1 M2 S
      refine F59.L5_step ?_
      unfold F59.L5n
      rw [wr (by omega) (by omega), show ((i : Nat) : Int) + 1 = ((i + 1 : Nat) : Int) by omega]
      exact ih (i + 1) g n1 n2 T1 T2 H l (by omega) hg (by omega) (by omega) (by rw [et]; exact M1) (by rw [et]; exact M2) S
    have l4 : ∀ (g : PH) (vb : Nat) (ii jj : IV) (H : Heap) (l : List HP), PH.sub (PH.of H0) g → IsG g 2 ii (begE x) → IsG g 2 jj (endE x) →
        Sat H (pt vb (.cells ⟨[ii.v, jj.v]⟩ 109) :: twoT g sr1 tp1 sr2 tp2 n1 n2 T1 T2 l) → F59.L4 z (treI tp1) (treI tp2) (some (aA r)) vb q0 1 c0 (1 : Nat) (0 : Int) q xs.length qc (xs.length : Nat) (i : Nat) H (MergeEnd H0 xs []) := by
      intro g vb ii jj H l hg hi hj S
      obtain ⟨kb, kc, eb, ec, kr, er, kf, ef, p1, p2, p3⟩ := (hP i r x hr hxi).ext (extOf S hg)
      have B1 : Blk H r _ := ⟨p1⟩
      have T0 : Sat H (twoT g sr1 tp1 sr2 tp2 n1 n2 T1 T2 (pt vb (.cells ⟨[ii.v, jj.v]⟩ 109) :: l)) := by
        refine S.to ?_
        iterate 7 (apply Ent.pick; (focus (repeat (first | exact Sel.here | apply Sel.there))))
        exact Ent.refl
      clear S
      refine F59.L4_step ?_
      unfold F59.L4n
      (repeat (first | (refine Step.go ?_; intros) | refine iteB_t (by decide) ?_ | refine iteB_f (by decide) ?_ | (refine Duo.mk (by first | omega | exact rfl | decide) ?_; intros) | (refine Duo.mk (Clo.mk (by kernel_rfl)) ?_; intros)))
      refine iteB_i (fun h => ?_) (fun h2 => ?_)
      · have hk2 : x.k = 2 := by simpa using h
        (repeat (first | (refine Step.go ?_; intros) | refine iteB_t (by decide) ?_ | refine iteB_f (by decide) ?_ | (refine Duo.mk (by first | omega | exact rfl | decide) ?_; intros) | (refine Duo.mk (Clo.mk (by kernel_rfl)) ?_; intros)))
        refine insOne hvx hi hj M1 (by simp [allowR, hk2]) (by omega) T0 fun H1 U1 N1 S1 => ?_
        (repeat (first | (refine Step.go ?_; intros) | refine iteB_t (by decide) ?_ | refine iteB_f (by decide) ?_ | (refine Duo.mk (by first | omega | exact rfl | decide) ?_; intros) | (refine Duo.mk (Clo.mk (by kernel_rfl)) ?_; intros)))
        refine insTwo hvx hi hj M2 (by simp [allowW, hk2]) (by omega) S1 fun H2 U2 N2 S2 => ?_
        (repeat (first | (refine Step.go ?_; intros) | refine iteB_t (by decide) ?_ | refine iteB_f (by decide) ?_ | (refine Duo.mk (by first | omega | exact rfl | decide) ?_; intros) | (refine Duo.mk (Clo.mk (by kernel_rfl)) ?_; intros)))
        exact l5 g (n1 + 1) (n2 + 1) U1 U2 H2 _ hg (by omega) (by omega) N1 N2 S2
      have hk2 : ¬ x.k = 2 := by simpa using h2
      refine iteB_i (fun h => ?_) (fun h0 => ?_)
      · have hk0 : x.k = 0 := by simpa using h
        (repeat (first | (refine Step.go ?_; intros) | refine iteB_t (by decide) ?_ | refine iteB_f (by decide) ?_ | (refine Duo.mk (by first | omega | exact rfl | decide) ?_; intros) | (refine Duo.mk (Clo.mk (by kernel_rfl)) ?_; intros)))
        refine insOne hvx hi hj M1 (by simp [allowR, hk0]) (by omega) T0 fun H1 U1 N1 S1 => ?_
        (repeat (first | (refine Step.go ?_; intros) | refine iteB_t (by decide) ?_ | refine iteB_f (by decide) ?_ | (refine Duo.mk (by first | omega | exact rfl | decide) ?_; intros) | (refine Duo.mk (Clo.mk (by kernel_rfl)) ?_; intros)))
        exact l5 g (n1 + 1) n2 U1 T2 H1 _ hg (by omega) (by omega) N1 (M2.skip (by simp [allowW, hk0])) S1
      have hk0 : ¬ x.k = 0 := by simpa using h0
      have hk1 : x.k = 1 := by have := hvx.k0; omega
      refine iteB_t (by simp [hk1]) ?_
      (repeat (first | (refine Step.go ?_; intros) | refine iteB_t (by decide) ?_ | refine iteB_f (by decide) ?_ | (refine Duo.mk (by first | omega | exact rfl | decide) ?_; intros) | (refine Duo.mk (Clo.mk (by kernel_rfl)) ?_; intros)))
      refine insTwo hvx hi hj M2 (by simp [allowW, hk1]) (by omega) T0 fun H2 U2 N2 S2 => ?_
      (repeat (first | (refine Step.go ?_; intros) | refine iteB_t (by decide) ?_ | refine iteB_f (by decide) ?_ | (refine Duo.mk (by first | omega | exact rfl | decide) ?_; intros) | (refine Duo.mk (Clo.mk (by kernel_rfl)) ?_; intros)))
      exact l5 g n1 (n2 + 1) T1 U2 H2 _ hg (by omega) (by omega) (M1.skip (by simp [allowR, hk1])) N2 S2
    -- the permission is turned into an interval
    have l3 : ∀ (vb : Nat) (rq : Option Addr) (rn rc : Nat) (H : Heap) (l : List HP), (x.e.size = 0 ∨ (rn = (if x.e = bZ then 0 else x.e.size) ∧ (x.e = bZ → rq = none) ∧ (x.e ≠ bZ → ∀ H2, PH.sub g (PH.of H2) → cellsAt H2 rq (bytesOf x.e.data.toList)))) →
        Sat H (pt vb (.cells ⟨[.nilIface, .nilIface]⟩ 109) :: twoT g sr1 tp1 sr2 tp2 n1 n2 T1 T2 l) → F59.L3 z (treI tp1) (treI tp2) (some (aA r)) vb rq rn rc q0 1 c0 (1 : Nat) (0 : Int) q xs.length qc (xs.length : Nat) (i : Nat) H (MergeEnd H0 xs []) := by
      intro vb rq rn rc H l hrq S
      have E3 := extOf S hg
      obtain ⟨kb, kc, eb, ec, kr, er, kf, ef, p1, p2, p3⟩ := (hP i r x hr hxi).ext E3
      obtain ⟨kb', kc', eb', ec', kr', er', kf', ef', p1', p2', p3'⟩ := hP i r x hr hxi
      have := E3.block_some p1'
      rw [p1] at this
      obtain ⟨⟨rfl, rfl⟩, rfl, rfl⟩ : (kb = kb' ∧ kc = kc') ∧ eb = eb' ∧ ec = ec' := by simpa [aA] using this
      have B1 : Blk H r _ := ⟨p1⟩
      refine F59.L3_step ?_
      unfold F59.L3n
      (repeat (first | (refine Step.go ?_; intros) | refine iteB_t (by decide) ?_ | refine iteB_f (by decide) ?_ | (refine Duo.mk (by first | omega | exact rfl | decide) ?_; intros) | (refine Duo.mk (Clo.mk (by kernel_rfl)) ?_; intros)))
      have hkey : IsG g 2 (.mk 182 (.slice (some (aA kb)) x.key.size kc)) (begE x) := fun H2 hs => IsE.byt rfl (cellsAt_block (hs kb _ (hg kb _ p2')))
      refine iteB_i (fun h => ?_) (fun h => ?_)
      · have he : x.e.size ≠ 0 := by
          intro h0; rw [h0] at h; simp at h
        obtain ⟨hn, h1, h2⟩ := hrq.resolve_left he
        (repeat (first | (refine Step.go ?_; intros) | refine iteB_t (by decide) ?_ | refine iteB_f (by decide) ?_ | (refine Duo.mk (by first | omega | exact rfl | decide) ?_; intros) | (refine Duo.mk (Clo.mk (by kernel_rfl)) ?_; intros)))
        refine gives_i S (mkByt _ _ _ _ _ _) fun H1 E1 S1 => ?_
        (repeat (first | (refine Step.go ?_; intros) | refine iteB_t (by decide) ?_ | refine iteB_f (by decide) ?_ | (refine Duo.mk (by first | omega | exact rfl | decide) ?_; intros) | (refine Duo.mk (Clo.mk (by kernel_rfl)) ?_; intros)))
        have S2 := ‹Sat _ _›
        refine l4 g vb (.mk 182 (.slice (some (aA kb)) x.key.size kc)) (.mk 182 (.slice rq rn rc)) _ _ hg hkey ?_ S2
        intro H2 hs
        unfold endE
        rw [if_neg he]
        by_cases hz : x.e = bZ
        · rw [if_pos hz]
          rw [if_pos hz] at hn
          rw [h1 hz, hn]
          exact IsE.byt rfl (fun j v hj => by simp [bytesOf] at hj)
        · rw [if_neg hz]
          rw [if_neg hz] at hn
          rw [hn]
          exact IsE.byt rfl (h2 hz H2 hs)
      · have he : x.e.size = 0 := by
          have : ¬ ((x.e.size : Int) != 0) = true := by rw [h]; simp
          simpa using this
        (repeat (first | (refine Step.go ?_; intros) | refine iteB_t (by decide) ?_ | refine iteB_f (by decide) ?_ | (refine Duo.mk (by first | omega | exact rfl | decide) ?_; intros) | (refine Duo.mk (Clo.mk (by kernel_rfl)) ?_; intros)))
        have hks := hvx.key.1
        refine callD_i (mkBytP (b := x.key) (by omega) rfl (cellsAt_block p2)) ?_
        rintro _ H4 ⟨r4, rfl, S4⟩
        have E4 : ExtH H H4 := S4.ext_of
        have hfr : H.size ≤ r4 := freshS (r := r4) S4 (by (repeat (first | exact Sel.here | apply Sel.there))) (by (repeat (first | exact Sel.here | apply Sel.there)))
        have hb4 := S4.at_ (List.mem_cons_self ..)
        have hkz := new_byt (x := endE x) (b := x.key ++ (⟨#[0]⟩ : ByteArray)) (rest := []) hb4 hfr (n := x.key.size + 1) (c := x.key.size + 1) (by unfold endE; rw [if_pos he]; show (x.key ++ bZ).size = _; rw [cat_size]) (by unfold endE; rw [if_pos he])
        have hkz := hkz.mono (sub_plus_r (g := g) S)
        clear S4
        have S5 : Sat H (twoT g sr1 tp1 sr2 tp2 n1 n2 T1 T2 (pt vb (.cells ⟨[.nilIface, .nilIface]⟩ 109) :: l)) := by
          refine S.to ?_
          iterate 7 (apply Ent.pick; (focus (repeat (first | exact Sel.here | apply Sel.there))))
          exact Ent.refl
        have S6 := two_more S5 E4
        clear S5 S
        (repeat (first | (refine Step.go ?_; intros) | refine iteB_t (by decide) ?_ | refine iteB_f (by decide) ?_ | (refine Duo.mk (by first | omega | exact rfl | decide) ?_; intros) | (refine Duo.mk (Clo.mk (by kernel_rfl)) ?_; intros)))
        have S7 := ‹Sat _ _›
        refine l4 (plus g H H4) vb (.mk 182 (.slice (some (aA kb)) x.key.size kc)) (.mk 182 (.slice (some (aA r4)) (x.key.size + 1) (x.key.size + 1))) _ (hg.trans sub_plus_l) (hkey.mono sub_plus_l) hkz (l := l) (S7.to ?_)
        iterate 8 (apply Ent.pick; (focus (repeat (first | exact Sel.here | apply Sel.there))))
        exact Ent.refl
    have l2 : ∀ (vb : Nat) (H : Heap) (l : List HP), ¬ x.e = bZ → Sat H (pt vb (.cells ⟨[.nilIface, .nilIface]⟩ 109) :: twoT g sr1 tp1 sr2 tp2 n1 n2 T1 T2 l) → F59.L2 z (treI tp1) (treI tp2) (some (aA r)) vb q0 1 c0 (1 : Nat) (0 : Int) q xs.length qc (xs.length : Nat) (i : Nat) H (MergeEnd H0 xs []) := by
      intro vb H l hz S
      obtain ⟨kb', kc', eb', ec', kr', er', kf', ef', p1', p2', p3'⟩ := hP i r x hr hxi
      have B1 : Blk H r _ := ⟨(extOf S hg).block_some p1'⟩
      refine F59.L2_step ?_
      unfold F59.L2n
      (repeat (first | (refine Step.go ?_; intros) | refine iteB_t (by decide) ?_ | refine iteB_f (by decide) ?_ | (refine Duo.mk (by first | omega | exact rfl | decide) ?_; intros) | (refine Duo.mk (Clo.mk (by kernel_rfl)) ?_; intros)))
      exact l3 vb (some (aA eb')) x.e.size ec' H l (.inr ⟨by rw [if_neg hz], fun h => absurd h hz, fun _ H2 hs => cellsAt_block (hs eb' _ (hg eb' _ p3'))⟩) S
    refine F59.L1_step ?_
    unfold F59.L1n
    refine iteB_t (by simp; omega) ?_
    have R0 : RowsC H q ptrN 1 rs := ⟨hR.ext E⟩
    refine R0.idx hl ⟨by omega, by omega, ?_⟩
    intro a ha
    subst ha
    have S0 := Sat.start H
    refine Step.go ?_
    clear S0
    (repeat (first | (refine Step.go ?_; intros) | refine iteB_t (by decide) ?_ | refine iteB_f (by decide) ?_ | (refine Duo.mk (by first | omega | exact rfl | decide) ?_; intros) | (refine Duo.mk (Clo.mk (by kernel_rfl)) ?_; intros)))
    rename_i vb H1 S1
    clear S
    obtain ⟨kb', kc', eb', ec', kr', er', kf', ef', p1', p2', p3'⟩ := hP i r x hr hxi
    have EE := extOf S1 hg
    have B1 : Blk H1 r _ := ⟨EE.block_some p1'⟩
    (repeat (first | (refine Step.go ?_; intros) | refine iteB_t (by decide) ?_ | refine iteB_f (by decide) ?_ | (refine Duo.mk (by first | omega | exact rfl | decide) ?_; intros) | (refine Duo.mk (Clo.mk (by kernel_rfl)) ?_; intros)))
    refine iteB_i (fun h => ?_) (fun h => ?_)
    · refine l2 vb H1 l (fun hz => ?_) S1
      rw [hz] at h; exact absurd h (by decide)
    · have he1 : x.e.size = 1 := by
        have : ¬ ((x.e.size : Int) != 1) = true := by rw [h]; simp
        simp at this; omega
      obtain ⟨e0, he0⟩ : ∃ e0, x.e = ⟨#[e0]⟩ := one_byte he1
      have B2 : Blk H1 eb' (.cells ⟨.int .u8 e0.toNat :: er'⟩ 5 ef') := ⟨by have := EE.block_some p3'; rw [he0] at this; exact this⟩
      (repeat (first | (refine Step.go ?_; intros) | refine iteB_t (by decide) ?_ | refine iteB_f (by decide) ?_ | (refine Duo.mk (by first | omega | exact rfl | decide) ?_; intros) | (refine Duo.mk (Clo.mk (by kernel_rfl)) ?_; intros)))
      rw [show (Int.toNat 0 * 1 : Nat) = 0 from rfl]
      (repeat (first | (refine Step.go ?_; intros) | refine iteB_t (by decide) ?_ | refine iteB_f (by decide) ?_ | (refine Duo.mk (by first | omega | exact rfl | decide) ?_; intros) | (refine Duo.mk (Clo.mk (by kernel_rfl)) ?_; intros)))
      refine iteB_i (fun h => ?_) (fun h => ?_)
      · refine l2 vb H1 l (fun hz => ?_) S1
        rw [he0] at hz
        obtain rfl : e0 = 0 := by simpa [bZ] using hz
        exact absurd h (by decide)
      · have hz : x.e = bZ := by
          have h0 : e0.toNat = 0 := by
            have : ¬ ((e0.toNat : Int) != 0) = true := by rw [h]; simp
            simpa using this
          rw [he0]
          have : e0 = 0 := UInt8.toNat_inj.1 h0
          rw [this]
        exact l3 vb none 0 0 H1 l (.inr ⟨by rw [if_pos hz], fun _ => rfl, fun h => absurd hz h⟩) S1
end
end Go.Proofs.Ytobolifgehagfaa

set_option linter.unusedVariables false
set_option linter.unusedSimpArgs false
set_option linter.unnecessarySimpa false
namespace Go.Proofs.Ytobolifgehagfaa
open Go Go.Den Go.Proofs
/-! The store of one user, and the permissions merged out of it. -/
theorem hfreeze_upd {H : Heap} {r : Nat} {cs : List Value} {E : TypeId} (hb : H[r]? = some (.cells ⟨cs⟩ E)) : Upd r (.cells ⟨cs⟩ E (cs.length, cs.length + 1)) H (hfreeze H ⟨r, cs.length, none⟩ 1) := by
  unfold hfreeze
  rw [if_neg (by decide)]
  refine ⟨by simp, fun b _ hb' => ?_, ?_⟩
  · rw [Array.getElem?_modify]
    rw [if_neg (fun h => hb' h.symm)]
  · rw [Array.getElem?_modify, if_pos rfl, hb]
    rfl
/-- A slice of bytes turned into one of the same type: its end is looked at no more. -/
theorem cvSame {P : Program} {H : Heap} {l : List HP} {T e E r n c : Nat} {cs : List Value} {Q : List PanicEntry → Heap → Prop} {K : Value → Heap → Prop} (S : Sat H (pt r (.cells ⟨cs⟩ E) :: l)) (hu : P.underlying T = some (.slice e)) (he : P.underlying e = some (.int .u8))
    (k : ∀ H1, Sat H1 (pt r (.cells ⟨cs⟩ E (cs.length, cs.length + 1)) :: l) → K (.slice (some ⟨r, 0, none⟩) n c) H1) : valD P (Go.convert T T (.slice (some ⟨r, 0, none⟩) n c)) H Q K := by
  have hb := S.at_ (List.mem_cons_self ..)
  refine ⟨?_⟩
  unfold Go.convert
  rw [SemH_bind]
  refine semH_of_pure (pureV_underlying hu) ?_
  rw [SemH_bind]
  refine semH_of_pure (pureV_underlying hu) ?_
  dsimp only
  rw [SemH_bind]
  refine semH_of_pure (pureV_underlying he) ?_
  simp only [beq_self_eq_true]
  rw [SemH_bind]
  unfold markStringish
  rw [SemH_bind]
  refine semH_of_read (readV_shape (by show r < _; exact block_lt hb)) ?_
  have hsh : hshape H r = some (E, cs.length) := by
    unfold hshape
    rw [hb]
    simp
  rw [hsh]
  simp only
  show SemH P (pure (Value.slice (some ⟨r, 0, none⟩) n c)) (hfreeze H ⟨r, cs.length, none⟩ 1) K (fun v H' => Q [{ v := v, recovered := false }] H')
  rw [SemH_pure]
  exact k _ (S.upd (hfreeze_upd hb))
abbrev oneI (q : Option Addr) (n c : Nat) : IV := .mk 125 (.agg ⟨[.slice q n c]⟩)
section
variable {H H0 : Heap} {l : List HP}
theorem user_ok (q : Option Addr) (n c : Nat) (s : ByteArray) : CallsH Try.prog 135 ⟨[.agg ⟨[.slice q n c]⟩, .string s]⟩ H (fun e H1 => ∃ x : Nat × Nat × Nat, e = .returned (pA x.2.2) ∧ Sat H1 ([pt x.2.2 (.cells ⟨[.slice (some (aA x.1)) 1 1, .slice none 0 0, .slice (some (aA x.2.1)) 1 1, .pointer none]⟩ 191), pt x.2.1 (.cells ⟨[.string (ByteArray.mk #[114])]⟩ 9)] ++ [old H])) := by
  have S := Sat.start H
  refine F135.calls ?_
  unfold F135.go
  (repeat (first | (refine Step.go ?_; intros) | refine iteB_t (by decide) ?_ | refine iteB_f (by decide) ?_ | (refine Duo.mk (by first | omega | exact rfl | decide) ?_; intros) | (refine Duo.mk (Clo.mk (by kernel_rfl)) ?_; intros)))
  rename_i r H1 S1 r1 H2 S2
  refine cvSame S2 (e := 5) (by kernel_rfl) (by kernel_rfl) fun H3 S3 => ?_
  clear S S1 S2
  (repeat (first | (refine Step.go ?_; intros) | refine iteB_t (by decide) ?_ | refine iteB_f (by decide) ?_ | (refine Duo.mk (by first | omega | exact rfl | decide) ?_; intros) | (refine Duo.mk (Clo.mk (by kernel_rfl)) ?_; intros)))
  rename_i r2 H4 S4 r3 H5 S5
  refine ⟨(r1, r2, r3), rfl, S5.to ?_⟩
  iterate 2 (apply Ent.pick; (focus (repeat (first | exact Sel.here | apply Sel.there))))
  refine Ent.drop (Ent.drop Ent.refl)
theorem role_ok (q : Option Addr) (n c : Nat) (s : ByteArray) : CallsH Try.prog 134 ⟨[.agg ⟨[.slice q n c]⟩, .string s]⟩ H (fun e H1 => ∃ x : Nat × Nat, e = .returned (pA x.2) ∧ Sat H1 ([pt x.2 (.cells ⟨[.slice (some (aA x.1)) 1 1, .slice q n c]⟩ 195)] ++ [old H])) := by
  have S := Sat.start H
  refine F134.calls ?_
  unfold F134.go
  (repeat (first | (refine Step.go ?_; intros) | refine iteB_t (by decide) ?_ | refine iteB_f (by decide) ?_ | (refine Duo.mk (by first | omega | exact rfl | decide) ?_; intros) | (refine Duo.mk (Clo.mk (by kernel_rfl)) ?_; intros)))
  rename_i r H1 S1 r1 H2 S2
  refine cvSame S2 (e := 5) (by kernel_rfl) (by kernel_rfl) fun H3 S3 => ?_
  clear S S1 S2
  (repeat (first | (refine Step.go ?_; intros) | refine iteB_t (by decide) ?_ | refine iteB_f (by decide) ?_ | (refine Duo.mk (by first | omega | exact rfl | decide) ?_; intros) | (refine Duo.mk (Clo.mk (by kernel_rfl)) ?_; intros)))
  rename_i r2 H4 S4
  refine ⟨(r1, r2), rfl, S4.to ?_⟩
  iterate 1 (apply Ent.pick; (focus (repeat (first | exact Sel.here | apply Sel.there))))
  refine Ent.drop (Ent.drop Ent.refl)
theorem MergeEnd.mono {xs : List PM} {l : List HP} {e : Ending} {H1 : Heap} (h : MergeEnd H0 xs l e H1) : MergeEnd H0 xs [] e H1 := by
  obtain ⟨g, sr1, tp1, sr2, tp2, n1, n2, T1, T2, u, h1, h2, h3, h4, S⟩ := h
  refine ⟨g, sr1, tp1, sr2, tp2, n1, n2, T1, T2, u, h1, h2, h3, h4, S.to ?_⟩
  iterate 8 (apply Ent.pick; (focus (repeat (first | exact Sel.here | apply Sel.there))))
  exact Ent.nil
theorem merged_ok {xs : List PM} {rs : List Nat} {q : Option Addr} {c : Nat} {s : ByteArray} (hR : RowsAt ptrN 1 H0 q rs) (hl : rs.length = xs.length) (hx : xs.length ≤ 12) (hv : ∀ x ∈ xs, ValidPM x) (hP : ∀ (i : Nat) (r : Nat) (x : PM), rs[i]? = some r → xs[i]? = some x → PermAt H0 r x) :
    CallsH Try.prog 59 ⟨[(oneI q xs.length c).v, .string s]⟩ H0 (MergeEnd H0 xs []) := by
  have S : Sat H0 [has (PH.of H0)] := Sat.start H0
  refine F59.calls (s0 := oneI q xs.length c) ?_
  unfold F59.go
  refine callI_val (f := 135) (by kernel_rfl) (by kernel_rfl) (by kernel_rfl) ?_
  refine grow_i S (user_ok q xs.length c s) ?_
  rintro ⟨u1, u2, u3⟩ H1 E1 S1
  clear S
  dsimp only [List.cons_append, List.nil_append] at S1 ⊢
  (repeat (first | (refine Step.go ?_; intros) | refine iteB_t (by decide) ?_ | refine iteB_f (by decide) ?_ | (refine Duo.mk (by first | omega | exact rfl | decide) ?_; intros) | (refine Duo.mk (Clo.mk (by kernel_rfl)) ?_; intros)))
  refine call_of (newTree_ok (g := PH.of H0) (o := 2) S1) ?_
  rintro _ H2 ⟨tp1, sr1, rfl, S2⟩
  clear S1
  (repeat (first | (refine Step.go ?_; intros) | refine iteB_t (by decide) ?_ | refine iteB_f (by decide) ?_ | (refine Duo.mk (by first | omega | exact rfl | decide) ?_; intros) | (refine Duo.mk (Clo.mk (by kernel_rfl)) ?_; intros)))
  refine call_of (newTree_ok (g := PH.of H0) (o := 2) S2) ?_
  rintro _ H3 ⟨tp2, sr2, rfl, S3⟩
  clear S2
  (repeat (first | (refine Step.go ?_; intros) | refine iteB_t (by decide) ?_ | refine iteB_f (by decide) ?_ | (refine Duo.mk (by first | omega | exact rfl | decide) ?_; intros) | (refine Duo.mk (Clo.mk (by kernel_rfl)) ?_; intros)))
  refine F59.L0_step ?_
  unfold F59.L0n
  (repeat (first | (refine Step.go ?_; intros) | refine iteB_t (by decide) ?_ | refine iteB_f (by decide) ?_ | (refine Duo.mk (by first | omega | exact rfl | decide) ?_; intros) | (refine Duo.mk (Clo.mk (by kernel_rfl)) ?_; intros)))
  rw [show (Int.toNat 0 * 1 : Nat) = 0 from rfl]
  (repeat (first | (refine Step.go ?_; intros) | refine iteB_t (by decide) ?_ | refine iteB_f (by decide) ?_ | (refine Duo.mk (by first | omega | exact rfl | decide) ?_; intros) | (refine Duo.mk (Clo.mk (by kernel_rfl)) ?_; intros)))
  refine callI_val (f := 134) (by kernel_rfl) (by kernel_rfl) (by kernel_rfl) ?_
  refine grow_i S3 (role_ok q xs.length c _) ?_
  rintro ⟨w1, w2⟩ H4 E4 S4
  clear S3
  dsimp only [List.cons_append, List.nil_append] at S4 ⊢
  (repeat (first | (refine Step.go ?_; intros) | refine iteB_t (by decide) ?_ | refine iteB_f (by decide) ?_ | (refine Duo.mk (by first | omega | exact rfl | decide) ?_; intros) | (refine Duo.mk (Clo.mk (by kernel_rfl)) ?_; intros)))
  refine iteB_f rfl ?_
  (repeat (first | (refine Step.go ?_; intros) | refine iteB_t (by decide) ?_ | refine iteB_f (by decide) ?_ | (refine Duo.mk (by first | omega | exact rfl | decide) ?_; intros) | (refine Duo.mk (Clo.mk (by kernel_rfl)) ?_; intros)))
  refine merge_loop (sr1 := sr1) (tp1 := tp1) (sr2 := sr2) (tp2 := tp2) hR hl hx hv hP xs.length 0 (PH.of H0) 0 0 .nil .nil H4 (pt w2 (.cells ⟨[.slice (some (aA w1)) 1 1, .slice q xs.length c]⟩ 195) :: pt u3 (.cells ⟨[.slice (some (aA u1)) 1 1, .slice none 0 0, .slice (some (aA u2)) 1 1, .pointer none]⟩ 191) :: pt u2 (.cells ⟨[.string (ByteArray.mk #[114])]⟩ 9) :: []) (by omega) (fun _ _ h => h) (by omega) (by omega) (MRel.nil _) (MRel.nil _) (S4.to ?_)
  iterate 7 (apply Ent.pick; (focus (repeat (first | exact Sel.here | apply Sel.there))))
  iterate 3 (apply Ent.pick; (focus (repeat (first | exact Sel.here | apply Sel.there))))
  exact Ent.nil
end
end Go.Proofs.Ytobolifgehagfaa

set_option linter.unusedVariables false
set_option linter.unusedSimpArgs false
set_option linter.unnecessarySimpa false
namespace Go.Proofs.Ytobolifgehagfaa
open Go Go.Den Go.Proofs
/-! What permissions permit. -/
theorem con_cover {o : Int} {B E : EN} {L : List It} (hs : Srt o L) (hp : ∀ x ∈ L, ltE o x.B x.E = true) (hBE : ltE o B E = true) : conR o B E (foldV (conF o) (none, true) (L.filter (meetI o B E))).1 = true ↔ ∀ y, ltE o y B = false → ltE o y E = true → ∃ x ∈ L, ltE o y x.B = false ∧ ltE o y x.E = true := by
  constructor
  · intro h
    have hV : ∀ x, x ∈ L.filter (meetI o B E) → x ∈ L := fun x hx => (List.mem_filter.1 hx).1
    cases hl : L.filter (meetI o B E) with
    | nil => rw [hl] at h; simp [foldV, conR] at h
    | cons v r =>
      rw [hl] at h
      have e : foldV (conF o) (none, true) (v :: r) = foldV (conF o) (some (v.B, v.E), true) r := rfl
      rw [e, con_run, Bool.and_eq_true] at h
      obtain ⟨h1, h2⟩ := h
      have h2 : ltE o B v.B = false := by simpa using h2
      intro y hy1 hy2
      cases hyv : ltE o y v.E with
      | true => exact ⟨v, hV v (by rw [hl]; simp), nlt_trans h2 hy1, hyv⟩
      | false =>
        obtain ⟨x, hx, h3⟩ := run_cov r v.E h1 y hyv hy2
        exact ⟨x, hV x (by rw [hl]; simp [hx]), h3⟩
  · intro h
    rw [contains_law hs hp hBE]
    unfold covI
    rw [Bool.and_eq_true]
    refine ⟨hasI_iff.2 (h B (ltE_irrefl ..) hBE), ?_⟩
    rw [List.all_eq_true]
    intro x hx
    cases hi : innerI o B E x with
    | false => rfl
    | true =>
      unfold innerI at hi
      rw [Bool.and_eq_true] at hi
      rw [hasI_iff.2 (h x.E (by simpa using hi.1) hi.2)]
      rfl
/-- A permission covers a place. -/
def covP (x : PM) (y : EN) : Prop := ltE 2 y (begE x) = false ∧ ltE 2 y (endE x) = true
def alP (k : Int) (x : PM) : Bool := decide (x.k = k) || decide (x.k = 2)
theorem alP0 : alP 0 = allowR := rfl
theorem alP1 : alP 1 = allowW := rfl
def endB (e : ByteArray) : EN := if e = bZ then (⟨#[]⟩, 0) else (e, 0)
/-- All of what is asked for is covered. -/
def PermitP (xs : List PM) (k : Int) (key e : ByteArray) : Prop :=
  if e.size = 0 then ∃ x ∈ xs, alP k x = true ∧ covP x (key, 0)
  else ∀ y, ltE 2 y (key, 0) = false → ltE 2 y (endB e) = true → ∃ x ∈ xs, alP k x = true ∧ covP x y
theorem bl_snoc2 : ∀ a b : List UInt8, Op.bytesLess a (b ++ [0]) = !Op.bytesLess b a
  | [], [] => rfl
  | [], _ :: _ => rfl
  | x :: a, [] => by
    cases a with
    | nil => simp [Op.bytesLess]
    | cons y a => simp [Op.bytesLess]
  | x :: a, y :: b => by
    rw [List.cons_append, Op.bytesLess, Op.bytesLess, bl_snoc2 a b]
    by_cases h1 : x < y
    · simp [h1]
      have : ¬ y < x := fun h => absurd (UInt8.lt_trans h1 h) (UInt8.lt_irrefl _)
      have h2 : ¬ y = x := fun h => by subst h; exact absurd h1 (UInt8.lt_irrefl _)
      simp [this, h2]
      exact UInt8.le_of_lt h1
    · by_cases h2 : y < x
      · have h3 : ¬ x = y := fun h => by subst h; exact absurd h2 (UInt8.lt_irrefl _)
        simp [h1, h2, h3]
      · have h3 : x = y := UInt8.toNat_inj.1 (by
          rw [UInt8.lt_iff_toNat_lt] at h1 h2; omega)
        subst h3
        simp
theorem ltS_snoc (a b : ByteArray) : ltS a (b ++ bZ) = !ltS b a := by
  unfold ltS
  rw [ByteArray.toList_eq, ByteArray.toList_eq, ByteArray.toList_eq]
  have : (b ++ bZ).data.toList = b.data.toList ++ [0] := by simp
  rw [this]
  exact bl_snoc2 _ _
theorem point_ok {xs : List PM} {k : Int} {T : Tr} {key : ByteArray} (hv : ∀ x ∈ xs, ValidPM x) (M : MRel (alP k) xs T) (hk : key.size ≠ 0) : hitsT 2 (key, 0) (key ++ bZ, 0) T = true ↔ ∃ x ∈ xs, alP k x = true ∧ covP x (key, 0) := by
  have hb : ∀ x ∈ xs, ltE 2 (begE x) (key ++ bZ, 0) = !ltE 2 (key, 0) (begE x) := by
    intro x hx
    have h1 := (hv x hx).key.2
    rw [aff2, aff2]
    unfold begE
    dsimp only
    have : (key ++ bZ).size ≠ 0 := by rw [cat_size]; omega
    rw [if_neg (fun h => h ⟨fun e => absurd e h1, fun e => absurd e this⟩), if_neg (fun h => h ⟨fun e => absurd e hk, fun e => absurd e h1⟩)]
    exact ltS_snoc _ _
  unfold hitsT
  rw [List.any_eq_true]
  constructor
  · rintro ⟨it, hit, h⟩
    obtain ⟨x, hx, ha, hB, hE⟩ := M.one it hit
    unfold meetI at h
    rw [Bool.and_eq_true, hB, hE, hb x hx] at h
    exact ⟨x, hx, ha, by simpa using h.2, h.1⟩
  · rintro ⟨x, hx, ha, h1, h2⟩
    obtain ⟨it, hit, hB, hE⟩ := M.all x hx ha
    refine ⟨it, hit, ?_⟩
    unfold meetI
    rw [hB, hE, hb x hx, h1, h2]
    rfl
theorem span_ok {xs : List PM} {k : Int} {T : Tr} {B E : EN} (M : MRel (alP k) xs T) (hBE : ltE 2 B E = true) : conR 2 B E (foldV (conF 2) (none, true) (vis 2 B E T)).1 = true ↔ ∀ y, ltE 2 y B = false → ltE 2 y E = true → ∃ x ∈ xs, alP k x = true ∧ covP x y := by
  rw [vis_ok hBE T M.wt.srt M.wt.prop, con_cover M.wt.srt M.wt.prop hBE]
  constructor
  · intro h y h1 h2
    obtain ⟨it, hit, h3, h4⟩ := h y h1 h2
    obtain ⟨x, hx, ha, hB, hE⟩ := M.one it hit
    exact ⟨x, hx, ha, by rw [← hB]; exact h3, by rw [← hE]; exact h4⟩
  · intro h y h1 h2
    obtain ⟨x, hx, ha, h3, h4⟩ := h y h1 h2
    obtain ⟨it, hit, hB, hE⟩ := M.all x hx ha
    exact ⟨it, hit, by rw [hB]; exact h3, by rw [hE]; exact h4⟩
end Go.Proofs.Ytobolifgehagfaa

set_option linter.unusedVariables false
set_option linter.unusedSimpArgs false
set_option linter.unnecessarySimpa false
namespace Go.Proofs.Ytobolifgehagfaa
open Go Go.Den Go.Proofs
/-! What is asked of the merged permissions. -/
abbrev uniP (u tp1 tp2 : Nat) : HP := pt u (.cells ⟨[(treI tp1).v, (treI tp2).v]⟩ 200)
section
variable {H H0 : Heap} {l : List HP}
theorem checkPoint_ok {g : PH} {sr1 tp1 sr2 tp2 : Nat} {n1 n2 : Int} {T1 T2 : Tr} {xs : List PM} {u : Nat} {p : Option Addr} {c : Nat} {key : ByteArray} {k : Int} (hv : ∀ x ∈ xs, ValidPM x) (M1 : MRel allowR xs T1) (M2 : MRel allowW xs T2) (hk : key.size ≠ 0) (hk1 : key.size ≤ 2147483647) (hkey : ∀ H2, PH.sub g (PH.of H2) → cellsAt H2 p (bytesOf key.data.toList)) (k0 : k = 0 ∨ k = 1)
    (S : Sat H (twoT g sr1 tp1 sr2 tp2 n1 n2 T1 T2 (uniP u tp1 tp2 :: l))) :
    CallsH Try.prog 60 ⟨[.pointer none, .pointer (some (aA u)), .slice p key.size c, .int .i32 k]⟩ H (fun e H1 => ∃ b, e = .returned (.bool b) ∧ (b = true ↔ ∃ x ∈ xs, alP k x = true ∧ covP x (key, 0)) ∧ Sat H1 [has g]) := by
  have hg : PH.sub g (PH.of H) := HasG.sub (l := twoT g sr1 tp1 sr2 tp2 n1 n2 T1 T2 (uniP u tp1 tp2 :: l)) inferInstance S
  refine F60.calls ?_
  unfold F60.go
  refine callD_i (mkBytP (b := key) hk1 rfl (hkey H hg)) ?_
  rintro _ H4 ⟨r4, rfl, S4⟩
  have E4 : ExtH H H4 := S4.ext_of
  have hfr : H.size ≤ r4 := freshS (r := r4) S4 (by (repeat (first | exact Sel.here | apply Sel.there))) (by (repeat (first | exact Sel.here | apply Sel.there)))
  have hb4 := S4.at_ (List.mem_cons_self ..)
  have hkz := new_byt (x := (key ++ bZ, 0)) (b := key ++ (⟨#[0]⟩ : ByteArray)) (rest := []) hb4 hfr (n := key.size + 1) (c := key.size + 1) (by show (key ++ bZ).size = _; rw [cat_size]) rfl
  have hkz := hkz.mono (sub_plus_r (g := g) S)
  clear S4
  have hki : IsG (plus g H H4) 2 (.mk 182 (.slice p key.size c)) (key, 0) := fun H2 hs => IsE.byt rfl (hkey H2 (sub_plus_l.trans hs))
  have S6 := two_more S E4
  clear S
  (repeat (first | (refine Step.go ?_; intros) | refine iteB_t (by decide) ?_ | refine iteB_f (by decide) ?_ | (refine Duo.mk (by first | omega | exact rfl | decide) ?_; intros) | (refine Duo.mk (Clo.mk (by kernel_rfl)) ?_; intros)))
  rename_i rb _ _ _ _ H5 S5
  clear S6
  have hlt : ltE 2 (key, 0) (key ++ bZ, 0) = true := by
    rw [aff2, if_neg (fun h => h ⟨fun e => absurd e hk, fun e => absurd (e : (key ++ bZ).size = 0) (by rw [cat_size]; omega)⟩)]
    exact lt_snoc _
  have fin : ∀ H1, Sat H1 (pt rb (.cells ⟨[(IV.mk 182 (.slice p key.size c)).v, (IV.mk 182 (.slice (some (aA r4)) (key.size + 1) (key.size + 1))).v]⟩ 109) :: twoT (plus g H H4) sr1 tp1 sr2 tp2 n1 n2 T1 T2 (uniP u tp1 tp2 :: l)) → Sat H1 [has g] := by
    intro H1 S1
    have S2 : Sat H1 [has (plus g H H4)] := by
      refine S1.to ?_
      iterate 1 (apply Ent.pick; (focus (repeat (first | exact Sel.here | apply Sel.there))))
      exact Ent.nil
    refine S2.to ?_
    exact Ent.first fun k h => sub_plus_l.trans h
  refine iteB_i (fun h => ?_) (fun h => ?_)
  · have hk0 : k = 0 := by simpa using h
    subst hk0
    (repeat (first | (refine Step.go ?_; intros) | refine iteB_t (by decide) ?_ | refine iteB_f (by decide) ?_ | (refine Duo.mk (by first | omega | exact rfl | decide) ?_; intros) | (refine Duo.mk (Clo.mk (by kernel_rfl)) ?_; intros)))
    refine callI_i (f := 143) (by kernel_rfl) (by kernel_rfl) (by kernel_rfl) ?_
    refine gives_i S5 (Intersects_ok (g := plus g H H4) (o := 2) (sr := sr1) (n := n1) (T := T1) (i := .mk 182 (.slice p key.size c)) (j := .mk 182 (.slice (some (aA r4)) (key.size + 1) (key.size + 1))) hki hkz hlt M1.wt.srt M1.wt.prop (standT S5 (by (repeat (first | exact Sel.here | apply Sel.there))) (by (repeat (first | exact Sel.here | apply Sel.there))) (by (repeat (first | exact Sel.here | apply Sel.there))) (by (repeat (first | exact Sel.here | apply Sel.there))))) fun H6 E6 S6 => ?_
    (repeat (first | (refine Step.go ?_; intros) | refine iteB_t (by decide) ?_ | refine iteB_f (by decide) ?_ | (refine Duo.mk (by first | omega | exact rfl | decide) ?_; intros) | (refine Duo.mk (Clo.mk (by kernel_rfl)) ?_; intros)))
    exact ⟨_, rfl, point_ok (k := 0) hv M1 hk, fin _ S6⟩
  · have hk0 : k = 1 := by
      rcases k0 with rfl | rfl
      · exact absurd h (by decide)
      · rfl
    subst hk0
    refine iteB_t rfl ?_
    (repeat (first | (refine Step.go ?_; intros) | refine iteB_t (by decide) ?_ | refine iteB_f (by decide) ?_ | (refine Duo.mk (by first | omega | exact rfl | decide) ?_; intros) | (refine Duo.mk (Clo.mk (by kernel_rfl)) ?_; intros)))
    refine callI_i (f := 143) (by kernel_rfl) (by kernel_rfl) (by kernel_rfl) ?_
    refine gives_i S5 (Intersects_ok (g := plus g H H4) (o := 2) (sr := sr2) (n := n2) (T := T2) (i := .mk 182 (.slice p key.size c)) (j := .mk 182 (.slice (some (aA r4)) (key.size + 1) (key.size + 1))) hki hkz hlt M2.wt.srt M2.wt.prop (standT S5 (by (repeat (first | exact Sel.here | apply Sel.there))) (by (repeat (first | exact Sel.here | apply Sel.there))) (by (repeat (first | exact Sel.here | apply Sel.there))) (by (repeat (first | exact Sel.here | apply Sel.there))))) fun H6 E6 S6 => ?_
    (repeat (first | (refine Step.go ?_; intros) | refine iteB_t (by decide) ?_ | refine iteB_f (by decide) ?_ | (refine Duo.mk (by first | omega | exact rfl | decide) ?_; intros) | (refine Duo.mk (Clo.mk (by kernel_rfl)) ?_; intros)))
    exact ⟨_, rfl, point_ok (k := 1) hv M2 hk, fin _ S6⟩
end
end Go.Proofs.Ytobolifgehagfaa

set_option linter.unusedVariables false
set_option linter.unusedSimpArgs false
set_option linter.unnecessarySimpa false
namespace Go.Proofs.Ytobolifgehagfaa
open Go Go.Den Go.Proofs
section
variable {H H0 : Heap} {l : List HP}
theorem open_ok {p : Option Addr} {c : Nat} {e : ByteArray} (he : cellsAt H p (bytesOf e.data.toList)) : CallsH Try.prog 85 ⟨[.slice p e.size c]⟩ H (fun en H1 => H1 = H ∧ en = .returned (.bool (decide (e = bZ)))) := by
  refine F85.calls ?_
  unfold F85.go
  refine iteB_i (fun h => ?_) (fun h => ?_)
  · have h1 : e.size = 1 := by have := eq_of_beq h; omega
    obtain ⟨x, rfl⟩ := one_byte h1
    obtain ⟨a, h2, h3⟩ := he 0 (.int .u8 x.toNat) rfl
    subst h2
    refine Step.go ?_
    refine Duo.mk ⟨by omega, by rw [h1]; omega⟩ ?_
    refine ⟨(x.toNat : Int), h3, rfl, ?_⟩
    · congr 2
      rw [Bool.eq_iff_iff, decide_eq_true_iff]
      simp only [beq_iff_eq]
      constructor
      · intro h
        have : x = 0 := UInt8.toNat_inj.1 (by show x.toNat = 0; omega)
        rw [this]
      · intro h
        have : x = 0 := by simpa [bZ] using h
        rw [this]; rfl
  · refine ⟨rfl, ?_⟩
    have : ¬ e = bZ := by
      rintro rfl
      exact absurd h (by decide)
    simp [this]
theorem checkSpan_ok {g : PH} {sr1 tp1 sr2 tp2 : Nat} {n1 n2 : Int} {T1 T2 : Tr} {xs : List PM} {u : Nat} {p q : Option Addr} {c d : Nat} {key e : ByteArray} {k : Int} (hv : ∀ x ∈ xs, ValidPM x) (hx : xs.length ≤ 1000000) (M1 : MRel allowR xs T1) (M2 : MRel allowW xs T2) (hlt : ltE 2 (key, 0) (endB e) = true) (hkey : ∀ H2, PH.sub g (PH.of H2) → cellsAt H2 p (bytesOf key.data.toList)) (hend : ∀ H2, PH.sub g (PH.of H2) → cellsAt H2 q (bytesOf e.data.toList)) (k0 : k = 0 ∨ k = 1)
    (S : Sat H (twoT g sr1 tp1 sr2 tp2 n1 n2 T1 T2 (uniP u tp1 tp2 :: l))) :
    CallsH Try.prog 61 ⟨[.pointer none, .pointer (some (aA u)), .slice p key.size c, .slice q e.size d, .int .i32 k]⟩ H (fun en H1 => ∃ b, en = .returned (.bool b) ∧ (b = true ↔ ∀ y, ltE 2 y (key, 0) = false → ltE 2 y (endB e) = true → ∃ x ∈ xs, alP k x = true ∧ covP x y) ∧ Sat H1 [has g]) := by
  have hg : PH.sub g (PH.of H) := HasG.sub (l := twoT g sr1 tp1 sr2 tp2 n1 n2 T1 T2 (uniP u tp1 tp2 :: l)) inferInstance S
  refine F61.calls ?_
  unfold F61.go
  have rest : ∀ (q' : Option Addr) (m d' : Nat), (∀ H2, PH.sub g (PH.of H2) → IsE H2 2 (.mk 182 (.slice q' m d')) (endB e)) → F61.L0 (some (aA u)) p key.size c q' m d' k H (fun en H1 => ∃ b, en = .returned (.bool b) ∧ (b = true ↔ ∀ y, ltE 2 y (key, 0) = false → ltE 2 y (endB e) = true → ∃ x ∈ xs, alP k x = true ∧ covP x y) ∧ Sat H1 [has g]) := by
    intro q' m d' hE
    have hki : IsG g 2 (.mk 182 (.slice p key.size c)) (key, 0) := fun H2 hs => IsE.byt rfl (hkey H2 hs)
    refine F61.L0_step ?_
    unfold F61.L0n
    refine gives_i S (mkByt _ _ _ _ _ _) fun H1 E1 S1 => ?_
    clear S
    (repeat (first | (refine Step.go ?_; intros) | refine iteB_t (by decide) ?_ | refine iteB_f (by decide) ?_ | (refine Duo.mk (by first | omega | exact rfl | decide) ?_; intros) | (refine Duo.mk (Clo.mk (by kernel_rfl)) ?_; intros)))
    rename_i rb _ _ _ _ H5 S5
    clear S1
    refine iteB_i (fun h => ?_) (fun h => ?_)
    · have hk0 : k = 0 := by simpa using h
      subst hk0
      (repeat (first | (refine Step.go ?_; intros) | refine iteB_t (by decide) ?_ | refine iteB_f (by decide) ?_ | (refine Duo.mk (by first | omega | exact rfl | decide) ?_; intros) | (refine Duo.mk (Clo.mk (by kernel_rfl)) ?_; intros)))
      refine callI_i (f := 138) (by kernel_rfl) (by kernel_rfl) (by kernel_rfl) ?_
      have S6 : Sat H5 (tr g 2 sr1 sr1 T1 :: pt tp1 (treO (T1.ref sr1) n1 sr1) :: pt sr1 senO :: has g :: []) := by
        refine S5.to ?_
        iterate 4 (apply Ent.pick; (focus (repeat (first | exact Sel.here | apply Sel.there))))
        exact Ent.nil
      refine callD_i (Contains_ok (i := .mk 182 (.slice p key.size c)) (j := .mk 182 (.slice q' m d')) hki hE (by have := M1.len; omega) S6) ?_
      rintro _ H7 ⟨rfl, S7⟩
      (repeat (first | (refine Step.go ?_; intros) | refine iteB_t (by decide) ?_ | refine iteB_f (by decide) ?_ | (refine Duo.mk (by first | omega | exact rfl | decide) ?_; intros) | (refine Duo.mk (Clo.mk (by kernel_rfl)) ?_; intros)))
      refine ⟨_, rfl, span_ok (k := 0) M1 hlt, S7.to ?_⟩
      iterate 1 (apply Ent.pick; (focus (repeat (first | exact Sel.here | apply Sel.there))))
      exact Ent.nil
    · have hk0 : k = 1 := by
        rcases k0 with rfl | rfl
        · exact absurd h (by decide)
        · rfl
      subst hk0
      refine iteB_t rfl ?_
      (repeat (first | (refine Step.go ?_; intros) | refine iteB_t (by decide) ?_ | refine iteB_f (by decide) ?_ | (refine Duo.mk (by first | omega | exact rfl | decide) ?_; intros) | (refine Duo.mk (Clo.mk (by kernel_rfl)) ?_; intros)))
      refine callI_i (f := 138) (by kernel_rfl) (by kernel_rfl) (by kernel_rfl) ?_
      have S6 : Sat H5 (tr g 2 sr2 sr2 T2 :: pt tp2 (treO (T2.ref sr2) n2 sr2) :: pt sr2 senO :: has g :: []) := by
        refine S5.to ?_
        iterate 4 (apply Ent.pick; (focus (repeat (first | exact Sel.here | apply Sel.there))))
        exact Ent.nil
      refine callD_i (Contains_ok (i := .mk 182 (.slice p key.size c)) (j := .mk 182 (.slice q' m d')) hki hE (by have := M2.len; omega) S6) ?_
      rintro _ H7 ⟨rfl, S7⟩
      (repeat (first | (refine Step.go ?_; intros) | refine iteB_t (by decide) ?_ | refine iteB_f (by decide) ?_ | (refine Duo.mk (by first | omega | exact rfl | decide) ?_; intros) | (refine Duo.mk (Clo.mk (by kernel_rfl)) ?_; intros)))
      refine ⟨_, rfl, span_ok (k := 1) M2 hlt, S7.to ?_⟩
      iterate 1 (apply Ent.pick; (focus (repeat (first | exact Sel.here | apply Sel.there))))
      exact Ent.nil
  refine callD_i (open_ok (hend H hg)) ?_
  rintro _ H1 ⟨rfl, rfl⟩
  (repeat (first | (refine Step.go ?_; intros) | refine iteB_t (by decide) ?_ | refine iteB_f (by decide) ?_ | (refine Duo.mk (by first | omega | exact rfl | decide) ?_; intros) | (refine Duo.mk (Clo.mk (by kernel_rfl)) ?_; intros)))
  refine iteB_i (fun h => ?_) (fun h => ?_)
  · have hz : e = bZ := by simpa using h
    refine rest none 0 0 fun H2 hs => ?_
    unfold endB
    rw [if_pos hz]
    exact IsE.byt rfl (fun j v hj => by simp [bytesOf] at hj)
  · have hz : ¬ e = bZ := by simpa using h
    refine rest q e.size d fun H2 hs => ?_
    unfold endB
    rw [if_neg hz]
    exact IsE.byt rfl (hend H2 hs)
theorem permits_ok {xs : List PM} {rs : List Nat} {q p r : Option Addr} {c d m : Nat} {key e : ByteArray} {k : Int} (hR : RowsAt ptrN 1 H0 q rs) (hl : rs.length = xs.length) (hx : xs.length ≤ 12) (hv : ∀ x ∈ xs, ValidPM x) (hP : ∀ (i : Nat) (r : Nat) (x : PM), rs[i]? = some r → xs[i]? = some x → PermAt H0 r x)
    (hk : key.size ≠ 0) (hk1 : key.size ≤ 2147483647) (hkey : cellsAt H0 p (bytesOf key.data.toList)) (hend : cellsAt H0 r (bytesOf e.data.toList)) (hlt : e.size ≠ 0 → ltE 2 (key, 0) (endB e) = true) (k0 : k = 0 ∨ k = 1) :
    CallsH Try.prog 33 ⟨[.slice q xs.length c, .slice p key.size d, .slice r e.size m, .int .i32 k]⟩ H0 (fun en H1 => ∃ b, en = .returned (.bool b) ∧ (b = true ↔ PermitP xs k key e) ∧ ExtH H0 H1) := by
  refine F33.calls ?_
  unfold F33.go
  refine callD_i (merged_ok hR hl hx hv hP) ?_
  rintro en H1 ⟨g, sr1, tp1, sr2, tp2, n1, n2, T1, T2, u, rfl, hg, M1, M2, S⟩
  have stay : ∀ {p : Option Addr} {b : ByteArray}, cellsAt H0 p (bytesOf b.data.toList) → ∀ H2, PH.sub g (PH.of H2) → cellsAt H2 p (bytesOf b.data.toList) := by
    intro p b h H2 hs
    have S2 : Sat H2 [has g] := ⟨PH.of H2, hs, fun b o x => x, trivial⟩
    exact cellsAt_ext h (extOf S2 hg)
  have out : ∀ {H2 : Heap}, Sat H2 [has g] → ExtH H0 H2 := fun S2 => extOf S2 hg
  (repeat (first | (refine Step.go ?_; intros) | refine iteB_t (by decide) ?_ | refine iteB_f (by decide) ?_ | (refine Duo.mk (by first | omega | exact rfl | decide) ?_; intros) | (refine Duo.mk (Clo.mk (by kernel_rfl)) ?_; intros)))
  refine iteB_i (fun h => ?_) (fun h => ?_)
  · have he : e.size = 0 := by have := eq_of_beq h; omega
    refine callD_i (checkPoint_ok (c := d) hv M1 M2 hk hk1 (stay hkey) k0 S) ?_
    rintro _ H2 ⟨b, rfl, hb, S2⟩
    (repeat (first | (refine Step.go ?_; intros) | refine iteB_t (by decide) ?_ | refine iteB_f (by decide) ?_ | (refine Duo.mk (by first | omega | exact rfl | decide) ?_; intros) | (refine Duo.mk (Clo.mk (by kernel_rfl)) ?_; intros)))
    refine ⟨b, rfl, ?_, out S2⟩
    unfold PermitP
    rw [if_pos he]
    exact hb
  · have he : ¬ e.size = 0 := by
      intro h0; rw [h0] at h; simp at h
    refine callD_i (checkSpan_ok (c := d) (d := m) hv (by omega) M1 M2 (hlt he) (stay hkey) (stay hend) k0 S) ?_
    rintro _ H2 ⟨b, rfl, hb, S2⟩
    (repeat (first | (refine Step.go ?_; intros) | refine iteB_t (by decide) ?_ | refine iteB_f (by decide) ?_ | (refine Duo.mk (by first | omega | exact rfl | decide) ?_; intros) | (refine Duo.mk (Clo.mk (by kernel_rfl)) ?_; intros)))
    refine ⟨b, rfl, ?_, out S2⟩
    unfold PermitP
    rw [if_neg he]
    exact hb
end
end Go.Proofs.Ytobolifgehagfaa

set_option linter.unusedVariables false
set_option linter.unusedSimpArgs false
set_option linter.unnecessarySimpa false
namespace Go.Proofs.Ytobolifgehagfaa
open Go Go.Den Go.Proofs
section
variable {H H0 : Heap} {l : List HP}
def PEnd (H0 : Heap) (xs : List PM) (k : Int) (key e : ByteArray) (en : Ending) (H1 : Heap) : Prop := ∃ b, en = .returned (.bool b) ∧ (b = true ↔ PermitP xs k key e) ∧ ExtH H0 H1
theorem Permits_ok {xs : List PM} {p : Option Addr} {n c : Nat} {key e : ByteArray} {k : Int} (hR : RowsAt PM.cells 3 H0 p xs) (hn : xs.length = n) (hx : n ≤ 12) (hv : ∀ x ∈ xs, ValidPM x)
    (hk : key.size ≠ 0) (hk1 : key.size ≤ 2147483647) (he1 : e.size ≤ 2147483647) (hlt : e.size ≠ 0 → ltE 2 (key, 0) (endB e) = true) (k0 : k = 0 ∨ k = 1) :
    CallsH Try.prog 12 ⟨[.slice p n c, .string key, .string e, .int .i64 k]⟩ H0 (PEnd H0 xs k key e) := by
  refine F12.calls ?_
  unfold F12.go
  have hw : IntKind.wrap .i32 k = k := by rcases k0 with rfl | rfl <;> rfl
  have loop : ∀ (kk i : Nat) (q : Option Addr) (qc : Nat) (rs : List Nat) (g : PH) (H : Heap), i + kk = n → rs.length = i → PH.sub (PH.of H0) g → (∀ (j : Nat) (r : Nat) (x : PM), rs[j]? = some r → xs[j]? = some x → PermG g r x) → Sat H [has g, sl ptrN 75 1 q i qc rs] →
      F12.L0 p n c key e k q i qc (i : Nat) H (PEnd H0 xs k key e) := by
    intro kk
    induction kk with
    | zero =>
      intro i q qc rs g H hi hrs hg hP S
      obtain rfl : i = n := by omega
      refine F12.L0_step ?_
      unfold F12.L0n
      refine iteB_f (by simp) ?_
      have go : F12.L1 key e k q i qc H (PEnd H0 xs k key e) := by
        refine F12.L1_step ?_
        unfold F12.L1n
        (repeat (first | (refine Step.go ?_; intros) | refine iteB_t (by decide) ?_ | refine iteB_f (by decide) ?_ | (refine Duo.mk (by first | omega | exact rfl | decide) ?_; intros) | (refine Duo.mk (Clo.mk (by kernel_rfl)) ?_; intros)))
        rename_i r1 c1 H1 _ S1 r2 c2 H2 _ S2
        rw [hw]
        clear S S1
        have E0 : ExtH H0 H2 := extOf S2 hg
        have hs : PH.sub g (PH.of H2) := HasG.sub (l := _) inferInstance S2
        have hq : RowsAt ptrN 1 H2 q rs := S2.rowsAt (E := 75) (n := i) (k := qc) (by simp)
        have hc1 : cellsAt H2 (some (aA r1)) (bytesOf key.data.toList) := cellsAt_block (S2.at_ (List.mem_cons_of_mem _ (List.mem_cons_self ..)))
        have hc2 : cellsAt H2 (some (aA r2)) (bytesOf e.data.toList) := cellsAt_block (S2.at_ (List.mem_cons_self ..))
        subst hn
        refine callD_i (permits_ok (c := qc) (d := c1) (m := c2) hq (by omega) hx hv (fun j r x h1 h2 => (hP j r x h1 h2).perm hs) hk hk1 hc1 hc2 hlt k0) ?_
        rintro _ H3 ⟨b, rfl, hb, E3⟩
        (repeat (first | (refine Step.go ?_; intros) | refine iteB_t (by decide) ?_ | refine iteB_f (by decide) ?_ | (refine Duo.mk (by first | omega | exact rfl | decide) ?_; intros) | (refine Duo.mk (Clo.mk (by kernel_rfl)) ?_; intros)))
        exact ⟨b, rfl, hb, E0.trans E3⟩
      refine iteB_i (fun h => ?_) (fun h => go)
      refine iteB_f (by rcases k0 with rfl | rfl <;> first | rfl | exact absurd h (by decide)) ?_
      exact go
    | succ kk ih =>
      intro i q qc rs g H hi hrs hg hP S
      obtain ⟨x, hxi⟩ : ∃ x, xs[i]? = some x := get_of (by omega)
      have hI := HasI.nat hxi
      refine F12.L0_step ?_
      unfold F12.L0n
      refine iteB_t (by simp; omega) ?_
      have R0 : RowsC H p PM.cells 3 xs := ⟨hR.ext (extOf S hg)⟩
      refine R0.idx hn ⟨by omega, by omega, ?_⟩
      intro a ha
      subst ha
      have S0 := Sat.start H
      (repeat (first | (refine Step.go ?_; intros) | refine iteB_t (by decide) ?_ | refine iteB_f (by decide) ?_ | (refine Duo.mk (by first | omega | exact rfl | decide) ?_; intros) | (refine Duo.mk (Clo.mk (by kernel_rfl)) ?_; intros)))
      refine callD_i (permIn_ok (hv x (List.mem_of_getElem? hxi))) ?_
      rintro _ H1 ⟨r, rfl, E1, hr⟩
      clear S0
      have S1 := plus_has S E1
      have hr' := hr.mono (sub_plus_r (g := g) S)
      have hsub : PH.sub g (plus g H H1) := sub_plus_l
      generalize plus g H H1 = g' at S1 hr' hsub
      clear S
      (repeat (first | (refine Step.go ?_; intros) | refine iteB_t (by decide) ?_ | refine iteB_f (by decide) ?_ | (refine Duo.mk (by first | omega | exact rfl | decide) ?_; intros) | (refine Duo.mk (Clo.mk (by kernel_rfl)) ?_; intros)))
      rename_i r2 H2 S2
      have S3 : Sat H2 (sl ptrN 75 1 q i qc rs :: pt r2 (.cells ⟨[pA r]⟩ 75) :: has g' :: []) := by
        refine S2.to ?_
        iterate 3 (apply Ent.pick; (focus (repeat (first | exact Sel.here | apply Sel.there))))
        exact Ent.refl
      refine S3.slApp (ys := [r]) (q := some ⟨r2, 0, none⟩) (d := 1) ?_ rfl (by simp) (by simp [isCell]) rfl (by decide) (by omega) ?_
      · simp only [List.flatMap_cons, List.flatMap_nil, List.append_nil]
        exact cellsAt_one (S3.at_ (List.mem_cons_of_mem _ (List.mem_cons_self ..)))
      · intro q' c' H4 S4
        rw [wr (by omega) (by omega), show ((i : Nat) : Int) + 1 = ((i + 1 : Nat) : Int) by omega]
        refine ih (i + 1) q' c' (rs ++ [r]) g' H4 (by omega) (by simp; omega) (hg.trans hsub) ?_ (S4.to ?_)
        · intro j r' x' h1 h2
          rcases Nat.lt_or_ge j rs.length with hlt | hge
          · rw [List.getElem?_append_left hlt] at h1
            exact (hP j r' x' h1 h2).mono hsub
          · rw [List.getElem?_append_right hge] at h1
            have : j - rs.length = 0 := by
              have := lt_of h1
              simp at this; omega
            rw [this] at h1
            have h1 : r' = r := by simpa using h1.symm
            obtain rfl : j = i := by omega
            rw [hxi] at h2; cases h2
            rw [h1]; exact hr'
        · iterate 2 (apply Ent.pick; (focus (repeat (first | exact Sel.here | apply Sel.there))))
          exact Ent.nil
  refine loop n 0 none 0 [] (PH.of H0) H0 (by omega) rfl (fun _ _ h => h) (fun j r x h => by simp at h) ?_
  have S : Sat H0 [has (PH.of H0)] := Sat.start H0
  exact S.to (Ent.cons (Ent.slNil Ent.refl))
end
end Go.Proofs.Ytobolifgehagfaa

set_option linter.unusedVariables false
set_option linter.unusedSimpArgs false
set_option linter.unnecessarySimpa false
namespace Go.Proofs.Ytobolifgehagfaa
open Go Go.Den Go.Proofs
/-! What the laws say. -/
def covB (x : PM) (s : ByteArray) : Bool :=
  (eqS x.e (ByteArray.mk #[]) && eqS x.key s) || (eqS x.e bZ && (ltS x.key s || eqS x.key s)) || (!eqS x.e (ByteArray.mk #[]) && !eqS x.e bZ && (ltS x.key s || eqS x.key s) && ltS s x.e)
theorem le_flip (a b : ByteArray) : (ltS a b || eqS a b) = !ltS b a := by
  have h := ltS_flip a b
  cases h1 : (ltS a b || eqS a b) <;> (rw [h1] at h; rw [← h]; rfl)
theorem covB_ok {x : PM} {s : ByteArray} (hv : ValidPM x) (hs : s.size ≠ 0) : covB x s = true ↔ covP x (s, 0) := by
  have hk := hv.key.2
  have h1 : ltE 2 (s, 0) (begE x) = ltS s x.key := by
    rw [aff2]
    exact if_neg (fun h => h ⟨fun e => absurd e hs, fun e => absurd e hk⟩)
  unfold covB covP
  rw [h1, eqS_nil, le_flip]
  unfold endE
  by_cases he : x.e.size = 0
  · have hz : ¬ x.e = bZ := fun h => by rw [h] at he; cases he
    have hz' : eqS x.e bZ = false := by
      cases h : eqS x.e bZ with
      | false => rfl
      | true => exact absurd (eqS_iff.1 h) hz
    rw [if_pos he]
    have h2 : ltE 2 (s, 0) (x.key ++ bZ, 0) = !ltS x.key s := by
      rw [aff2, if_neg (fun h => h ⟨fun e => absurd e hs, fun e => absurd (e : (x.key ++ bZ).size = 0) (by rw [cat_size]; omega)⟩)]
      exact ltS_snoc _ _
    rw [h2]
    simp only [he, decide_true, Bool.true_and, hz', Bool.false_and, Bool.or_false, Bool.not_true]
    have h3 := ltS_flip x.key s
    cases h4 : ltS x.key s with
    | true =>
      rw [h4] at h3
      have h5 := ltS_asymm h4
      constructor
      · intro h
        have := eqS_iff.1 h
        rw [this] at h4
        have := ltS_asymm h4
        rw [h4] at this; cases this
      · rintro ⟨_, h⟩; cases h
    | false =>
      rw [h4] at h3
      cases h6 : eqS x.key s with
      | true => rw [h6] at h3; simp [← h3]
      | false => rw [h6] at h3; simp [← h3]
  · rw [if_neg he]
    by_cases hz : x.e = bZ
    · rw [if_pos hz]
      have h2 : ltE 2 (s, 0) ((⟨#[]⟩ : ByteArray), 0) = true := by
        rw [aff2, if_pos (fun h => absurd (h.2 rfl) hs)]
        rfl
      rw [h2, eqS_iff.2 hz]
      simp [he]
    · rw [if_neg hz]
      have hz' : eqS x.e bZ = false := by
        cases h : eqS x.e bZ with
        | false => rfl
        | true => exact absurd (eqS_iff.1 h) hz
      have h2 : ltE 2 (s, 0) (x.e, 0) = ltS s x.e := by
        rw [aff2]
        exact if_neg (fun h => h ⟨fun e => absurd e hs, fun e => absurd e he⟩)
      rw [h2, hz']
      simp [he]
theorem permit_nil {xs : List PM} {k : Int} {s : ByteArray} : PermitP xs k s (ByteArray.mk #[]) ↔ ∃ x ∈ xs, alP k x = true ∧ covP x (s, 0) := by
  unfold PermitP
  rw [if_pos (show (ByteArray.mk #[]).size = 0 from rfl)]
section
variable {H H0 : Heap} {l : List HP}
theorem allows_ok {x : PM} {k : Int} : CallsH Try.prog 13 ⟨[.agg ⟨x.cells⟩, .int .i64 k]⟩ H (Gives (.bool (alP k x)) H) := by
  have S := Sat.start H
  refine F13.calls ?_
  unfold F13.go
  (repeat (first | (refine Step.go ?_; intros) | refine iteB_t (by decide) ?_ | refine iteB_f (by decide) ?_ | (refine Duo.mk (by first | omega | exact rfl | decide) ?_; intros) | (refine Duo.mk (Clo.mk (by kernel_rfl)) ?_; intros)))
  refine iteB_i (fun h => ?_) (fun h => ?_)
  · have hk : x.k = k := by simpa using h
    refine ⟨?_, Sat.grown⟩
    unfold alP
    simp [hk]
  · have hk : ¬ x.k = k := by simpa using h
    (repeat (first | (refine Step.go ?_; intros) | refine iteB_t (by decide) ?_ | refine iteB_f (by decide) ?_ | (refine Duo.mk (by first | omega | exact rfl | decide) ?_; intros) | (refine Duo.mk (Clo.mk (by kernel_rfl)) ?_; intros)))
    refine ⟨?_, Sat.grown⟩
    unfold alP
    simp [hk]
    rfl
theorem rows_one {r : Nat} {T : TypeId} {x : PM} (h : H[r]? = some (.cells ⟨x.cells⟩ T)) : RowsAt PM.cells 3 H (some (aA r)) [x] := by
  refine RowsAt.of_block h fun i y hy j v hj => ?_
  match i, hy with
  | 0, hy =>
    simp at hy; subst hy
    simpa using hj
  | i + 1, hy => simp at hy
theorem point_law {xs : List PM} {p : Option Addr} {n c : Nat} {s : ByteArray} {k : Int} (hR : RowsAt PM.cells 3 H0 p xs) (hn : xs.length = n) (hx : n ≤ 12) (hv : ∀ x ∈ xs, ValidPM x) (hk : s.size ≠ 0) (hk1 : s.size ≤ 64) (k0 : k = 0 ∨ k = 1) : ∀ H, ExtH H0 H → F4.L1 p n c s k H (Gives (.bool true) H0) := by
  have loop : ∀ (kk i : Nat) (b : Bool) (H : Heap), i + kk = n → ExtH H0 H → (b = true ↔ ∃ (j : Nat) (x : PM), xs[j]? = some x ∧ j < i ∧ alP k x = true ∧ covP x (s, 0)) → F4.L2 p n c s k b p n c (n : Nat) (i : Nat) H (Gives (.bool true) H0) := by
    intro kk
    induction kk with
    | zero =>
      intro i b H hi E hb
      obtain rfl : i = n := by omega
      refine F4.L2_step ?_
      unfold F4.L2n
      refine iteB_f (by simp) ?_
      refine callD_i (Permits_ok (hR.ext E) hn hx hv hk (by omega) (by decide) (fun h => absurd rfl h) k0) ?_
      rintro _ H1 ⟨b', rfl, hb', E1⟩
      (repeat (first | (refine Step.go ?_; intros) | refine iteB_t (by decide) ?_ | refine iteB_f (by decide) ?_ | (refine Duo.mk (by first | omega | exact rfl | decide) ?_; intros) | (refine Duo.mk (Clo.mk (by kernel_rfl)) ?_; intros)))
      have hbb : b' = b := by
        rw [Bool.eq_iff_iff, hb', hb, permit_nil]
        constructor
        · rintro ⟨x, hx', h1, h2⟩
          obtain ⟨j, hj⟩ := List.getElem?_of_mem hx'
          exact ⟨j, x, hj, by have := lt_of hj; omega, h1, h2⟩
        · rintro ⟨j, x, hj, _, h1, h2⟩
          exact ⟨x, List.mem_of_getElem? hj, h1, h2⟩
      subst hbb
      refine iteB_t (by simp) ?_
      have S := Sat.start H1
      (repeat (first | (refine Step.go ?_; intros) | refine iteB_t (by decide) ?_ | refine iteB_f (by decide) ?_ | (refine Duo.mk (by first | omega | exact rfl | decide) ?_; intros) | (refine Duo.mk (Clo.mk (by kernel_rfl)) ?_; intros)))
      rename_i r H2 S2
      have E2 : ExtH H1 H2 := Sat.grown
      have hv1 : ∀ x ∈ [(⟨0, ByteArray.mk #[107], ByteArray.mk #[]⟩ : PM)], ValidPM x := by
        intro x hx'
        simp at hx'; subst hx'
        exact ⟨by decide, by decide, by decide, .inl rfl⟩
      refine callD_i (Permits_ok (c := 1) (rows_one (x := ⟨0, ByteArray.mk #[107], ByteArray.mk #[]⟩) (S2.at_ (List.mem_cons_self ..))) rfl (by decide) hv1 (by decide) (by decide) (by decide) (fun h => absurd rfl h) (.inl rfl)) ?_
      rintro _ H3 ⟨b3, rfl, hb3, E3⟩
      (repeat (first | (refine Step.go ?_; intros) | refine iteB_t (by decide) ?_ | refine iteB_f (by decide) ?_ | (refine Duo.mk (by first | omega | exact rfl | decide) ?_; intros) | (refine Duo.mk (Clo.mk (by kernel_rfl)) ?_; intros)))
      have : b3 = true := by
        rw [hb3, permit_nil]
        refine ⟨_, List.mem_cons_self .., rfl, (covB_ok (hv1 _ (List.mem_cons_self ..)) (by decide)).1 (by unfold covB; rw [eqS_iff.2 (rfl : (ByteArray.mk #[] : ByteArray) = ByteArray.mk #[]), eqS_iff.2 (rfl : (ByteArray.mk #[107] : ByteArray) = ByteArray.mk #[107])]; rfl)⟩
      subst this
      exact ⟨rfl, (E.trans E1).trans (E2.trans E3)⟩
    | succ kk ih =>
      intro i b H hi E hb
      obtain ⟨x, hxi⟩ : ∃ x, xs[i]? = some x := get_of (by omega)
      have hI := HasI.nat hxi
      have hvx := hv x (List.mem_of_getElem? hxi)
      have l3 : ∀ (b' : Bool) (H' : Heap), ExtH H0 H' → b' = (b || (alP k x && covB x s)) → F4.L3 p n c s k b' p n c (n : Nat) (i : Nat) H' (Gives (.bool true) H0) := by
        intro b' H' E' hb'
        refine F4.L3_step ?_
        unfold F4.L3n
        rw [wr (by omega) (by omega), show ((i : Nat) : Int) + 1 = ((i + 1 : Nat) : Int) by omega]
        refine ih (i + 1) b' H' (by omega) E' ?_
        rw [hb', Bool.or_eq_true, Bool.and_eq_true, hb, covB_ok hvx hk]
        constructor
        · rintro (⟨j, y, h1, h2, h3⟩ | ⟨h1, h2⟩)
          · exact ⟨j, y, h1, by omega, h3⟩
          · exact ⟨i, x, hxi, by omega, h1, h2⟩
        · rintro ⟨j, y, h1, h2, h3, h4⟩
          by_cases hji : j = i
          · subst hji; rw [hxi] at h1; cases h1; exact .inr ⟨h3, h4⟩
          · exact .inl ⟨j, y, h1, by omega, h3, h4⟩
      refine F4.L2_step ?_
      unfold F4.L2n
      simp only [le_flip]
      refine iteB_t (by simp; omega) ?_
      have R0 : RowsC H p PM.cells 3 xs := ⟨hR.ext E⟩
      refine R0.idx hn ⟨by omega, by omega, ?_⟩
      intro a ha
      subst ha
      have S0 := Sat.start H
      (repeat (first | (refine Step.go ?_; intros) | refine iteB_t (by decide) ?_ | refine iteB_f (by decide) ?_ | (refine Duo.mk (by first | omega | exact rfl | decide) ?_; intros) | (refine Duo.mk (Clo.mk (by kernel_rfl)) ?_; intros)))
      rename_i r _ _ _ _ _ _ H1 S1
      have E1 : ExtH H H1 := Sat.grown
      clear S0
      refine iteB_i (fun h => ?_) (fun hbf => ?_)
      · exact l3 true H1 (E.trans E1) (by rw [h]; rfl)
      (repeat (first | (refine Step.go ?_; intros) | refine iteB_t (by decide) ?_ | refine iteB_f (by decide) ?_ | (refine Duo.mk (by first | omega | exact rfl | decide) ?_; intros) | (refine Duo.mk (Clo.mk (by kernel_rfl)) ?_; intros)))
      refine gives_i S1 (allows_ok (x := x)) ?_
      intro H2 E2 S2
      clear S1
      have E02 := E.trans (E1.trans E2)
      (repeat (first | (refine Step.go ?_; intros) | refine iteB_t (by decide) ?_ | refine iteB_f (by decide) ?_ | (refine Duo.mk (by first | omega | exact rfl | decide) ?_; intros) | (refine Duo.mk (Clo.mk (by kernel_rfl)) ?_; intros)))
      refine iteB_i (fun hal => ?_) (fun hal => l3 false H2 E02 (by rw [hal, hbf]; rfl))
      repeat' (first
        | exact l3 _ H2 E02 (by rw [hal, hbf]; unfold covB; rw [le_flip]; first | (simp [*]; done) | (exfalso; clear ih l3 hb hR hv R0 hI E02 E1 E2 E; simp_all))
        | refine iteB_i (fun h => ?_) (fun h => ?_)
        | (refine Step.go ?_; intros))
  intro H E
  refine F4.L1_step ?_
  unfold F4.L1n
  exact loop n 0 false H (by omega) E ⟨(fun h => by cases h), (fun ⟨j, x, _, h, _⟩ => by omega)⟩
end
end Go.Proofs.Ytobolifgehagfaa

set_option linter.unusedVariables false
set_option linter.unusedSimpArgs false
set_option linter.unnecessarySimpa false
namespace Go.Proofs.Ytobolifgehagfaa
open Go Go.Den Go.Proofs
theorem authPoint_ok {H : Heap} {xs : List PM} {p : Option Addr} {n c : Nat} {k : Int} (s : ByteArray) (hR : RowsAt PM.cells 3 H p xs) (hn : xs.length = n) : CallsH Try.prog 4 ⟨[.slice p n c, .string s, .int .i64 k]⟩ H (Gives (.bool true) H) := by
  refine F4.calls ?_
  unfold F4.go
  refine callD_i (fit4 hR hn) ?_
  rintro _ H1 ⟨E1, b1, rfl, hb1⟩
  (repeat (first | (refine Step.go ?_; intros) | refine iteB_t (by decide) ?_ | refine iteB_f (by decide) ?_ | (refine Duo.mk (by first | omega | exact rfl | decide) ?_; intros) | (refine Duo.mk (Clo.mk (by kernel_rfl)) ?_; intros)))
  refine iteB_i (fun h => ⟨rfl, E1⟩) (fun h => ?_)
  refine iteB_i (fun h => ⟨rfl, E1⟩) (fun h2 => ?_)
  refine F4.L0_step ?_
  unfold F4.L0n
  refine callD_i (perms_ok (hR.ext E1) hn (hb1 (by simpa using h))) ?_
  rintro _ H2 ⟨E2, b2, rfl, hb2⟩
  have E02 := E1.trans E2
  (repeat (first | (refine Step.go ?_; intros) | refine iteB_t (by decide) ?_ | refine iteB_f (by decide) ?_ | (refine Duo.mk (by first | omega | exact rfl | decide) ?_; intros) | (refine Duo.mk (Clo.mk (by kernel_rfl)) ?_; intros)))
  refine iteB_i (fun h => ⟨rfl, E02⟩) (fun h => ?_)
  obtain ⟨hx, hv⟩ := hb2 (by simpa using h)
  refine callD_i (key_ok s) ?_
  rintro _ H3 ⟨rfl, rfl⟩
  (repeat (first | (refine Step.go ?_; intros) | refine iteB_t (by decide) ?_ | refine iteB_f (by decide) ?_ | (refine Duo.mk (by first | omega | exact rfl | decide) ?_; intros) | (refine Duo.mk (Clo.mk (by kernel_rfl)) ?_; intros)))
  refine iteB_i (fun h => ⟨rfl, E02⟩) (fun h3 => ?_)
  have h3 : ((ByteArray.size s : Nat) : Int) ≤ 64 := by simpa using h3
  refine iteB_i (fun h => ⟨rfl, E02⟩) (fun h4 => ?_)
  rw [eqS_nil] at h4
  have h4 := of_decide_eq_false h4
  refine iteB_i (fun h => ⟨rfl, E02⟩) (fun h5 => ?_)
  refine iteB_i (fun h => ⟨rfl, E02⟩) (fun h6 => ?_)
  have h5 := of_decide_eq_false h5
  have h6 := of_decide_eq_false h6
  exact point_law hR hn hx hv h4 (by omega) (by omega) _ E02
/-- What is asked for may be asked for in two parts. -/
theorem permit_parts {xs : List PM} {k : Int} {key at_ e : ByteArray} (hk : key.size ≠ 0) (ha : ltS key at_ = true) (haz : ¬ at_ = bZ) (he : e = bZ ∨ ltS at_ e = true) :
    at_.size ≠ 0 ∧ e.size ≠ 0 ∧ ltE 2 (key, 0) (endB at_) = true ∧ ltE 2 (at_, 0) (endB e) = true ∧ ltE 2 (key, 0) (endB e) = true ∧ (PermitP xs k key e ↔ PermitP xs k key at_ ∧ PermitP xs k at_ e) := by
  have a0 : at_.size ≠ 0 := fun h => by rw [ltS_nil at_ h key] at ha; cases ha
  have e0 : e.size ≠ 0 := by
    rcases he with rfl | he
    · decide
    · intro h; rw [ltS_nil e h at_] at he; cases he
  have eA : endB at_ = (at_, 0) := if_neg haz
  have h1 : ltE 2 (key, 0) (at_, 0) = true := by
    rw [aff2, if_neg (fun h => h ⟨fun e => absurd e hk, fun e => absurd e a0⟩)]
    exact ha
  have h2 : ltE 2 (at_, 0) (endB e) = true := by
    unfold endB
    by_cases hz : e = bZ
    · rw [if_pos hz, aff2, if_pos (fun h => absurd (h.2 rfl) a0)]
      rfl
    · rw [if_neg hz, aff2, if_neg (fun h => h ⟨fun e => absurd e a0, fun e => absurd e e0⟩)]
      exact he.resolve_left hz
  have h3 := ltE_trans h1 (ltE_asymm h2)
  refine ⟨a0, e0, by rw [eA]; exact h1, h2, h3, ?_⟩
  unfold PermitP
  rw [if_neg e0, if_neg a0, if_neg e0, eA]
  constructor
  · intro h
    refine ⟨fun y y1 y2 => h y y1 (ltE_trans y2 (ltE_asymm h2)), fun y y1 y2 => h y (nlt_trans ?_ y1) y2⟩
    exact ltE_asymm h1
  · rintro ⟨a, b⟩ y y1 y2
    cases hy : ltE 2 y (at_, 0) with
    | true => exact a y y1 hy
    | false => exact b y hy y2
section
variable {H H0 : Heap} {l : List HP}
theorem parts_law {xs : List PM} {p : Option Addr} {n c : Nat} {key at_ e : ByteArray} {k : Int} (hR : RowsAt PM.cells 3 H0 p xs) (hn : xs.length = n) (hx : n ≤ 12) (hv : ∀ x ∈ xs, ValidPM x) (hk : key.size ≠ 0) (ha : ltS key at_ = true) (haz : ¬ at_ = bZ) (he : e = bZ ∨ ltS at_ e = true) (hk1 : key.size ≤ 64) (ha1 : at_.size ≤ 64) (he1 : e.size ≤ 64) (k0 : k = 0 ∨ k = 1) (E : ExtH H0 H) : F3.L1 p n c key at_ e k H (Gives (.bool true) H0) := by
  obtain ⟨a0, e0, g1, g2, g3, hP⟩ := permit_parts (xs := xs) (k := k) hk ha haz he
  obtain ⟨_, _, _, _, _, hQ⟩ := permit_parts (xs := [⟨2, key, e⟩]) (k := k) hk ha haz he
  refine F3.L1_step ?_
  unfold F3.L1n
  refine callD_i (Permits_ok (hR.ext E) hn hx hv hk (by omega) (by omega) (fun _ => g3) k0) ?_
  rintro _ H1 ⟨b, rfl, hb, E1⟩
  (repeat (first | (refine Step.go ?_; intros) | refine iteB_t (by decide) ?_ | refine iteB_f (by decide) ?_ | (refine Duo.mk (by first | omega | exact rfl | decide) ?_; intros) | (refine Duo.mk (Clo.mk (by kernel_rfl)) ?_; intros)))
  have E01 := E.trans E1
  refine callD_i (Permits_ok (hR.ext E01) hn hx hv hk (by omega) (by omega) (fun _ => g1) k0) ?_
  rintro _ H2 ⟨b1, rfl, hb1, E2⟩
  (repeat (first | (refine Step.go ?_; intros) | refine iteB_t (by decide) ?_ | refine iteB_f (by decide) ?_ | (refine Duo.mk (by first | omega | exact rfl | decide) ?_; intros) | (refine Duo.mk (Clo.mk (by kernel_rfl)) ?_; intros)))
  have E02 := E01.trans E2
  -- the last question
  have hv1 : ∀ x ∈ [(⟨2, key, e⟩ : PM)], ValidPM x := by
    intro x hx'
    simp at hx'; subst hx'
    refine ⟨⟨by show (0 : Int) ≤ 2; omega, by show (2 : Int) ≤ 2; omega⟩, ⟨hk1, hk⟩, he1, ?_⟩
    rcases he with h | h
    · exact .inr (.inl h)
    · exact .inr (.inr (ltS_trans ha (ltS_asymm h)))
  have hwhole : PermitP [(⟨2, key, e⟩ : PM)] k key e := by
    unfold PermitP
    rw [if_neg e0]
    intro y y1 y2
    refine ⟨_, List.mem_cons_self .., by unfold alP; simp, y1, ?_⟩
    show ltE 2 y (endE ⟨2, key, e⟩) = true
    have : endE ⟨2, key, e⟩ = endB e := by unfold endE endB; rw [if_neg e0]
    rw [this]; exact y2
  have last : ∀ (H3 : Heap) (r : Nat), ExtH H0 H3 → H3[r]? = some (.cells ⟨[.int .i64 2, .string key, .string e]⟩ 27) →
      callD Try.prog 12 [.slice (some ⟨r, 0, none⟩) 1 1, .string key, .string at_, .int .i64 k] H3 (panK (Gives (.bool true) H0)) fun v3 H5 => tBool v3 fun b3 => Gives (.bool true) H0 (.returned (.bool b3)) H5 := by
    intro H3 r E3 hr
    refine callD_i (Permits_ok (c := 1) (rows_one (x := ⟨2, key, e⟩) hr) rfl (by decide) hv1 hk (by omega) (by omega) (fun _ => g1) k0) ?_
    rintro _ H4 ⟨b3, rfl, hb3, E4⟩
    refine tBool_i ?_
    have : b3 = true := hb3.2 (hQ.1 hwhole).1
    subst this
    exact ⟨rfl, E3.trans E4⟩
  refine iteB_i (fun h1 => ?_) (fun h1 => ?_)
  · refine callD_i (Permits_ok (hR.ext E02) hn hx hv a0 (by omega) (by omega) (fun _ => g2) k0) ?_
    rintro _ H3 ⟨b2, rfl, hb2, E3⟩
    (repeat (first | (refine Step.go ?_; intros) | refine iteB_t (by decide) ?_ | refine iteB_f (by decide) ?_ | (refine Duo.mk (by first | omega | exact rfl | decide) ?_; intros) | (refine Duo.mk (Clo.mk (by kernel_rfl)) ?_; intros)))
    have E03 := E02.trans E3
    have hbb : b = b2 := by
      rw [Bool.eq_iff_iff, hb, hP, hb2]
      exact ⟨fun h => h.2, fun h => ⟨hb1.1 h1, h⟩⟩
    subst hbb
    refine iteB_t (by simp) ?_
    have S := Sat.start H3
    (repeat (first | (refine Step.go ?_; intros) | refine iteB_t (by decide) ?_ | refine iteB_f (by decide) ?_ | (refine Duo.mk (by first | omega | exact rfl | decide) ?_; intros) | (refine Duo.mk (Clo.mk (by kernel_rfl)) ?_; intros)))
    rename_i r H4 S4
    exact last H4 r (E03.trans Sat.grown) (S4.at_ (List.mem_cons_self ..))
  · have hbb : b = false := by
      cases h : b with
      | false => rfl
      | true =>
        rw [h] at hb
        have := hb1.2 (hP.1 (hb.1 rfl)).1
        rw [h1] at this; cases this
    subst hbb
    refine iteB_t (by simp) ?_
    have S := Sat.start H2
    (repeat (first | (refine Step.go ?_; intros) | refine iteB_t (by decide) ?_ | refine iteB_f (by decide) ?_ | (refine Duo.mk (by first | omega | exact rfl | decide) ?_; intros) | (refine Duo.mk (Clo.mk (by kernel_rfl)) ?_; intros)))
    rename_i r H4 S4
    exact last H4 r (E02.trans Sat.grown) (S4.at_ (List.mem_cons_self ..))
end
theorem authParts_ok {H : Heap} {xs : List PM} {p : Option Addr} {n c : Nat} {k : Int} (key at_ e : ByteArray) (hR : RowsAt PM.cells 3 H p xs) (hn : xs.length = n) : CallsH Try.prog 3 ⟨[.slice p n c, .string key, .string at_, .string e, .int .i64 k]⟩ H (Gives (.bool true) H) := by
  refine F3.calls ?_
  unfold F3.go
  refine callD_i (fit4 hR hn) ?_
  rintro _ H1 ⟨E1, b1, rfl, hb1⟩
  (repeat (first | (refine Step.go ?_; intros) | refine iteB_t (by decide) ?_ | refine iteB_f (by decide) ?_ | (refine Duo.mk (by first | omega | exact rfl | decide) ?_; intros) | (refine Duo.mk (Clo.mk (by kernel_rfl)) ?_; intros)))
  refine iteB_i (fun h => ⟨rfl, E1⟩) (fun h => ?_)
  refine iteB_i (fun h => ⟨rfl, E1⟩) (fun _ => ?_)
  refine iteB_i (fun h => ⟨rfl, E1⟩) (fun _ => ?_)
  refine iteB_i (fun h => ⟨rfl, E1⟩) (fun _ => ?_)
  refine F3.L0_step ?_
  unfold F3.L0n
  refine callD_i (perms_ok (hR.ext E1) hn (hb1 (by simpa using h))) ?_
  rintro _ H2 ⟨E2, b2, rfl, hb2⟩
  have E02 := E1.trans E2
  (repeat (first | (refine Step.go ?_; intros) | refine iteB_t (by decide) ?_ | refine iteB_f (by decide) ?_ | (refine Duo.mk (by first | omega | exact rfl | decide) ?_; intros) | (refine Duo.mk (Clo.mk (by kernel_rfl)) ?_; intros)))
  simp only [le_flip]
  refine iteB_i (fun h => ⟨rfl, E02⟩) (fun h => ?_)
  obtain ⟨hx, hv⟩ := hb2 (by simpa using h)
  refine iteB_i (fun h => ⟨rfl, E02⟩) (fun h5 => ?_)
  refine iteB_i (fun h => ⟨rfl, E02⟩) (fun h6 => ?_)
  have h5 := of_decide_eq_false h5
  have h6 := of_decide_eq_false h6
  refine iteB_i (fun h => ⟨rfl, E02⟩) (fun h7 => ?_)
  rw [eqS_nil] at h7
  have h7 := of_decide_eq_false h7
  refine iteB_i (fun h => ⟨rfl, E02⟩) (fun h8 => ?_)
  have h8 : ltS key at_ = true := by simpa using h8
  refine iteB_i (fun h => ⟨rfl, E02⟩) (fun h9 => ?_)
  have h9 : ¬ at_ = bZ := fun h => by rw [eqS_iff.2 h] at h9; cases h9
  refine iteB_i (fun h10 => ?_) (fun h10 => ?_)
  · refine iteB_i (fun h => ⟨rfl, E02⟩) (fun h11 => ?_)
    have h11 : ltS at_ e = true := by simpa using h11
    refine callD_i (key_ok key) ?_
    rintro _ H3 ⟨rfl, rfl⟩
    (repeat (first | (refine Step.go ?_; intros) | refine iteB_t (by decide) ?_ | refine iteB_f (by decide) ?_ | (refine Duo.mk (by first | omega | exact rfl | decide) ?_; intros) | (refine Duo.mk (Clo.mk (by kernel_rfl)) ?_; intros)))
    refine iteB_i (fun h => ⟨rfl, E02⟩) (fun k1 => ?_)
    have k1 : ((ByteArray.size key : Nat) : Int) ≤ 64 := by simpa using k1
    refine callD_i (key_ok at_) ?_
    rintro _ H3 ⟨rfl, rfl⟩
    (repeat (first | (refine Step.go ?_; intros) | refine iteB_t (by decide) ?_ | refine iteB_f (by decide) ?_ | (refine Duo.mk (by first | omega | exact rfl | decide) ?_; intros) | (refine Duo.mk (Clo.mk (by kernel_rfl)) ?_; intros)))
    refine iteB_i (fun h => ⟨rfl, E02⟩) (fun k2 => ?_)
    have k2 : ((ByteArray.size at_ : Nat) : Int) ≤ 64 := by simpa using k2
    refine callD_i (key_ok e) ?_
    rintro _ H3 ⟨rfl, rfl⟩
    (repeat (first | (refine Step.go ?_; intros) | refine iteB_t (by decide) ?_ | refine iteB_f (by decide) ?_ | (refine Duo.mk (by first | omega | exact rfl | decide) ?_; intros) | (refine Duo.mk (Clo.mk (by kernel_rfl)) ?_; intros)))
    refine iteB_i (fun h => ⟨rfl, E02⟩) (fun k3 => ?_)
    have k3 : ((ByteArray.size e : Nat) : Int) ≤ 64 := by simpa using k3
    exact parts_law hR hn hx hv h7 h8 h9 (.inr h11) (by omega) (by omega) (by omega) (by omega) E02
  · have hez : e = bZ := eqS_iff.1 (by simpa using h10)
    refine callD_i (key_ok key) ?_
    rintro _ H3 ⟨rfl, rfl⟩
    (repeat (first | (refine Step.go ?_; intros) | refine iteB_t (by decide) ?_ | refine iteB_f (by decide) ?_ | (refine Duo.mk (by first | omega | exact rfl | decide) ?_; intros) | (refine Duo.mk (Clo.mk (by kernel_rfl)) ?_; intros)))
    refine iteB_i (fun h => ⟨rfl, E02⟩) (fun k1 => ?_)
    have k1 : ((ByteArray.size key : Nat) : Int) ≤ 64 := by simpa using k1
    refine callD_i (key_ok at_) ?_
    rintro _ H3 ⟨rfl, rfl⟩
    (repeat (first | (refine Step.go ?_; intros) | refine iteB_t (by decide) ?_ | refine iteB_f (by decide) ?_ | (refine Duo.mk (by first | omega | exact rfl | decide) ?_; intros) | (refine Duo.mk (Clo.mk (by kernel_rfl)) ?_; intros)))
    refine iteB_i (fun h => ⟨rfl, E02⟩) (fun k2 => ?_)
    have k2 : ((ByteArray.size at_ : Nat) : Int) ≤ 64 := by simpa using k2
    refine callD_i (key_ok e) ?_
    rintro _ H3 ⟨rfl, rfl⟩
    (repeat (first | (refine Step.go ?_; intros) | refine iteB_t (by decide) ?_ | refine iteB_f (by decide) ?_ | (refine Duo.mk (by first | omega | exact rfl | decide) ?_; intros) | (refine Duo.mk (Clo.mk (by kernel_rfl)) ?_; intros)))
    refine iteB_i (fun h => ⟨rfl, E02⟩) (fun k3 => ?_)
    have k3 : ((ByteArray.size e : Nat) : Int) ≤ 64 := by simpa using k3
    exact parts_law hR hn hx hv h7 h8 h9 (.inl hez) (by omega) (by omega) (by omega) (by omega) E02
end Go.Proofs.Ytobolifgehagfaa
