/- What functions of this seat do, each proved by a walk; no condition. -/
import Derived.Test.YtkenjnllegbmjaaQL
set_option linter.unusedVariables false
namespace Go.Proofs.Ytkenjnllegbmjaa
open Go Go.Den Go.Proofs
def TrueR (H0 : Heap) : Ending → Heap → Prop := fun e H1 => e = .returned (.bool true) ∧ ExtH H0 H1
section
variable {H0 : Heap} {l : List HP} {s : Option Addr} {sc : Nat} {ops : List QOp} {q : Option Addr} {qc : Nat} {ans : List QAn} {i : Nat} {o : QOp} {a : QAn} {L L' : List (Int × Int)} {ro : Nat} {R : Ending → Heap → Prop}
theorem inner_loop (h200 : ops.length ≤ 200) (ha : ans[i]? = some a) (hal : ans.length = ops.length) (hk : 1 ≤ o.k ∧ o.k ≤ 4) (h0a : 0 ≤ o.a) {lw : List QOp} {w : Option Addr} {wc : Nat} (hlw : lw.length ≤ i) (hi : i < ops.length)
    (hs : QStep L o a L') (hp : (lw.map kq).Perm L) (hn : (L.map (·.1)).Nodup) (h0 : ∀ x ∈ lw, 0 ≤ x.a)
    (next : ∀ (lw' : List QOp) (v : Option Addr) (vc : Nat) (H' : Heap), (lw'.map kq).Perm L' → (∀ x ∈ lw', 0 ≤ x.a) → lw'.length ≤ i + 1 → Sat H' (sl QOp.cells 27 3 v lw'.length vc lw' :: sl QAn.cells 29 4 q ops.length qc ans :: l) → F3.L0 q ops.length qc v lw'.length vc s ops.length sc (ops.length : Int) ((i + 1 : Nat) : Int) H' R) :
    ∀ (d k : Nat) (v : Option Addr) (vn vc : Nat) (H : Heap), k + d = lw.length → Sat H (sl QOp.cells 27 3 v vn vc ((lw.take k).filter (keepB o a)) :: pt ro (.cells ⟨o.cells⟩ 27) :: sl QOp.cells 27 3 w lw.length wc lw :: sl QAn.cells 29 4 q ops.length qc ans :: l) →
      F3.L1 q ops.length qc w lw.length wc (i : Int) ro v vn vc (leastF (lw.take k)) ((lw.take k).any (hitB a)) s ops.length sc (ops.length : Int) (i : Int) w lw.length wc (lw.length : Int) (k : Int) H R := by
  have XA := HasI.nat ha
  intro d
  induction d with
  | zero =>
    intro k v vn vc H hkd S
    have hkl : k = lw.length := by omega
    subst hkl
    rw [List.take_length] at *
    refine F3.L1_step ?_
    unfold F3.L1n
    refine iteB_f (by simp) ?_
    have vl := (S.slLen (List.mem_cons_self ..)).1
    have vle : vn ≤ lw.length := by rw [← vl]; exact List.length_filter_le _ _
    have hh0 : ∀ x ∈ lw.filter (keepB o a) ++ (if o.k = 1 then [o] else []), 0 ≤ x.a := by
      intro x hx
      rcases List.mem_append.1 hx with hx | hx
      · exact h0 x (List.mem_filter.1 hx).1
      · split at hx
        · simp at hx; subst hx; exact h0a
        · cases hx
    -- behind the last test
    have l4 : ∀ (rest : List QOp) (v : Option Addr) (vn vc : Nat) (H' : Heap), rest = lw.filter (keepB o a) ++ (if o.k = 1 then [o] else []) → Sat H' (sl QOp.cells 27 3 v vn vc rest :: pt ro (.cells ⟨o.cells⟩ 27) :: sl QOp.cells 27 3 w lw.length wc lw :: sl QAn.cells 29 4 q ops.length qc ans :: l) →
        F3.L4 q ops.length qc v vn vc s ops.length sc (ops.length : Int) (i : Int) H' R := by
      intro rest v vn vc H' hr S'
      have vl := (S'.slLen (List.mem_cons_self ..)).1
      refine F3.L4_step ?_
      unfold F3.L4n
      rw [wr_succ (by omega)]
      subst hr
      subst vl
      refine next _ v vc H' (after_ok hs hp hn hk) hh0 ?_ S'.done
      rw [List.length_append]
      have := List.length_filter_le (keepB o a) lw
      split <;> simp <;> omega
    have l3 : ∀ (rest : List QOp) (v : Option Addr) (vn vc : Nat) (H' : Heap), rest = lw.filter (keepB o a) ++ (if o.k = 1 then [o] else []) → Sat H' (sl QOp.cells 27 3 v vn vc rest :: pt ro (.cells ⟨o.cells⟩ 27) :: sl QOp.cells 27 3 w lw.length wc lw :: sl QAn.cells 29 4 q ops.length qc ans :: l) →
        F3.L3 q ops.length qc w lw.length wc (i : Int) ro v vn vc s ops.length sc (ops.length : Int) (i : Int) H' R := by
      intro rest v vn vc H' hr S'
      refine F3.L3_step ?_
      unfold F3.L3n
      (repeat (first | (refine Step.go ?_; intros) | refine iteB_t (by decide) ?_ | refine iteB_f (by decide) ?_ | (refine Duo.mk (by first | omega | exact rfl | decide) ?_; intros) | (refine Duo.mk (Clo.mk (by kernel_rfl)) ?_; intros)))
      refine iteB_i (fun h => ?_) (fun h => ?_)
      · simp at h
        refine S'.idx ⟨by omega, by omega, ?_⟩
        rintro r o' rfl
        (repeat (first | (refine Step.go ?_; intros) | refine iteB_t (by decide) ?_ | refine iteB_f (by decide) ?_ | (refine Duo.mk (by first | omega | exact rfl | decide) ?_; intros) | (refine Duo.mk (Clo.mk (by kernel_rfl)) ?_; intros)))
        refine iteB_f ?_ (l4 rest v vn vc H' hr S')
        have := (hs.len h).2
        have h2 := hp.length_eq
        simp at h2
        simp [this, h2]
      · exact l4 rest v vn vc H' hr S'
    have l2 : ∀ (rest : List QOp) (v : Option Addr) (vn vc : Nat) (H' : Heap), rest = lw.filter (keepB o a) ++ (if o.k = 1 then [o] else []) → Sat H' (sl QOp.cells 27 3 v vn vc rest :: pt ro (.cells ⟨o.cells⟩ 27) :: sl QOp.cells 27 3 w lw.length wc lw :: sl QAn.cells 29 4 q ops.length qc ans :: l) →
        F3.L2 q ops.length qc w lw.length wc (i : Int) ro v vn vc (leastF lw) (lw.any (hitB a)) s ops.length sc (ops.length : Int) (i : Int) H' R := by
      intro rest v vn vc H' hr S'
      refine F3.L2_step ?_
      unfold F3.L2n
      (repeat (first | (refine Step.go ?_; intros) | refine iteB_t (by decide) ?_ | refine iteB_f (by decide) ?_ | (refine Duo.mk (by first | omega | exact rfl | decide) ?_; intros) | (refine Duo.mk (Clo.mk (by kernel_rfl)) ?_; intros)))
      refine iteB_i (fun h => ?_) (fun h => ?_)
      · simp at h
        refine S'.idx ⟨by omega, by omega, ?_⟩
        rintro r o' rfl
        obtain ⟨t1, t2⟩ := told_ok (hs.peek h).2 hp h0
        (repeat (first | (refine Step.go ?_; intros) | refine iteB_t (by decide) ?_ | refine iteB_f (by decide) ?_ | (refine Duo.mk (by first | omega | exact rfl | decide) ?_; intros) | (refine Duo.mk (Clo.mk (by kernel_rfl)) ?_; intros)))
        refine iteB_f (by rw [t1]; simp) ?_
        (repeat (first | (refine Step.go ?_; intros) | refine iteB_t (by decide) ?_ | refine iteB_f (by decide) ?_ | (refine Duo.mk (by first | omega | exact rfl | decide) ?_; intros) | (refine Duo.mk (Clo.mk (by kernel_rfl)) ?_; intros)))
        refine iteB_i (fun hok => ?_) (fun hok => ?_)
        · obtain ⟨t3, t4⟩ := t2 hok
          (repeat (first | (refine Step.go ?_; intros) | refine iteB_t (by decide) ?_ | refine iteB_f (by decide) ?_ | (refine Duo.mk (by first | omega | exact rfl | decide) ?_; intros) | (refine Duo.mk (Clo.mk (by kernel_rfl)) ?_; intros)))
          refine iteB_f (by rw [t3]; simp) ?_
          refine iteB_f (by rw [t4]; rfl) ?_
          exact l3 rest v vn vc H' hr S'
        · exact l3 rest v vn vc H' hr S'
      · simp at h
        (repeat (first | (refine Step.go ?_; intros) | refine iteB_t (by decide) ?_ | refine iteB_f (by decide) ?_ | (refine Duo.mk (by first | omega | exact rfl | decide) ?_; intros) | (refine Duo.mk (Clo.mk (by kernel_rfl)) ?_; intros)))
        refine iteB_i (fun h3 => ?_) (fun h3 => ?_)
        · simp at h3
          refine S'.idx ⟨by omega, by omega, ?_⟩
          rintro r o' rfl
          obtain ⟨t1, t2⟩ := told_ok (hs.pop h3).1 hp h0
          (repeat (first | (refine Step.go ?_; intros) | refine iteB_t (by decide) ?_ | refine iteB_f (by decide) ?_ | (refine Duo.mk (by first | omega | exact rfl | decide) ?_; intros) | (refine Duo.mk (Clo.mk (by kernel_rfl)) ?_; intros)))
          refine iteB_f (by rw [t1]; simp) ?_
          (repeat (first | (refine Step.go ?_; intros) | refine iteB_t (by decide) ?_ | refine iteB_f (by decide) ?_ | (refine Duo.mk (by first | omega | exact rfl | decide) ?_; intros) | (refine Duo.mk (Clo.mk (by kernel_rfl)) ?_; intros)))
          refine iteB_i (fun hok => ?_) (fun hok => ?_)
          · obtain ⟨t3, t4⟩ := t2 hok
            (repeat (first | (refine Step.go ?_; intros) | refine iteB_t (by decide) ?_ | refine iteB_f (by decide) ?_ | (refine Duo.mk (by first | omega | exact rfl | decide) ?_; intros) | (refine Duo.mk (Clo.mk (by kernel_rfl)) ?_; intros)))
            refine iteB_f (by rw [t3]; simp) ?_
            refine iteB_f (by rw [t4]; rfl) ?_
            exact l3 rest v vn vc H' hr S'
          · exact l3 rest v vn vc H' hr S'
        · exact l3 rest v vn vc H' hr S'
    (repeat (first | (refine Step.go ?_; intros) | refine iteB_t (by decide) ?_ | refine iteB_f (by decide) ?_ | (refine Duo.mk (by first | omega | exact rfl | decide) ?_; intros) | (refine Duo.mk (Clo.mk (by kernel_rfl)) ?_; intros)))
    refine iteB_i (fun h => ?_) (fun h => ?_)
    · simp at h
      (repeat (first | (refine Step.go ?_; intros) | refine iteB_t (by decide) ?_ | refine iteB_f (by decide) ?_ | (refine Duo.mk (by first | omega | exact rfl | decide) ?_; intros) | (refine Duo.mk (Clo.mk (by kernel_rfl)) ?_; intros)))
      exact l2 (lw.filter (keepB o a) ++ [o]) _ _ _ _ (by rw [if_pos h]) Sat.fin
    · simp at h
      exact l2 (lw.filter (keepB o a)) _ _ _ _ (by rw [if_neg h, List.append_nil]) Sat.fin
  | succ d ih =>
    intro k v vn vc H hkd S
    have vl := (S.slLen (List.mem_cons_self ..)).1
    have vle : vn ≤ lw.length := by
      rw [← vl]
      exact Nat.le_trans (List.length_filter_le _ _) (by simp; omega)
    obtain ⟨x, hx⟩ := get_of (l := lw) (i := k) (by omega)
    have hx0 := h0 x (List.mem_of_getElem? hx)
    have X := HasI.nat hx
    have ts := take_snoc hx
    refine F3.L1_step ?_
    unfold F3.L1n
    refine iteB_t (by simp; omega) ?_
    refine (S.bring (.there (.there .here))).idx ⟨by omega, by omega, ?_⟩
    rintro r o' rfl
    (repeat (first | (refine Step.go ?_; intros) | refine iteB_t (by decide) ?_ | refine iteB_f (by decide) ?_ | (refine Duo.mk (by first | omega | exact rfl | decide) ?_; intros) | (refine Duo.mk (Clo.mk (by kernel_rfl)) ?_; intros)))
    rename_i rx H1 S1 H2 S2 H3 S3 H4 S4
    have el : leastF (lw.take (k + 1)) = leastS (leastF (lw.take k)) x := by rw [ts]; simp [leastF]
    have eh : (lw.take (k + 1)).any (hitB a) = ((lw.take k).any (hitB a) || hitB a x) := by rw [ts]; simp
    have er : (lw.take (k + 1)).filter (keepB o a) = (lw.take k).filter (keepB o a) ++ if keepB o a x then [x] else [] := by rw [ts, List.filter_append, List.filter_cons]; cases keepB o a x <;> simp
    -- the end of the round
    have l9 : ∀ (v : Option Addr) (vn vc : Nat) (H' : Heap), Sat H' (sl QOp.cells 27 3 v vn vc ((lw.take (k + 1)).filter (keepB o a)) :: pt ro (.cells ⟨o.cells⟩ 27) :: sl QOp.cells 27 3 (some ⟨r, o', none⟩) lw.length wc lw :: sl QAn.cells 29 4 q ops.length qc ans :: l) →
        F3.L9 q ops.length qc (some ⟨r, o', none⟩) lw.length wc (i : Int) ro v vn vc (leastF (lw.take (k + 1))) ((lw.take (k + 1)).any (hitB a)) s ops.length sc (ops.length : Int) (i : Int) (some ⟨r, o', none⟩) lw.length wc (lw.length : Int) (k : Int) H' R := by
      intro v vn vc H' S'
      refine F3.L9_step ?_
      unfold F3.L9n
      rw [wr_succ (by omega)]
      exact ih (k + 1) v vn vc H' (by omega) S'
    have l8 : keepB o a x = true → ∀ (H' : Heap), Sat H' (pt rx (.cells ⟨x.cells⟩ 27) :: sl QOp.cells 27 3 v vn vc ((lw.take k).filter (keepB o a)) :: pt ro (.cells ⟨o.cells⟩ 27) :: sl QOp.cells 27 3 (some ⟨r, o', none⟩) lw.length wc lw :: sl QAn.cells 29 4 q ops.length qc ans :: l) →
        F3.L8 q ops.length qc (some ⟨r, o', none⟩) lw.length wc (i : Int) ro v vn vc (leastF (lw.take (k + 1))) ((lw.take (k + 1)).any (hitB a)) rx s ops.length sc (ops.length : Int) (i : Int) (some ⟨r, o', none⟩) lw.length wc (lw.length : Int) (k : Int) H' R := by
      intro hkeep H' S'
      refine F3.L8_step ?_
      unfold F3.L8n
      (repeat (first | (refine Step.go ?_; intros) | refine iteB_t (by decide) ?_ | refine iteB_f (by decide) ?_ | (refine Duo.mk (by first | omega | exact rfl | decide) ?_; intros) | (refine Duo.mk (Clo.mk (by kernel_rfl)) ?_; intros)))
      refine l9 _ _ _ _ ?_
      rw [er, if_pos hkeep]
      exact Sat.fin
    have l9' : keepB o a x = false → ∀ (H' : Heap), Sat H' (pt rx (.cells ⟨x.cells⟩ 27) :: sl QOp.cells 27 3 v vn vc ((lw.take k).filter (keepB o a)) :: pt ro (.cells ⟨o.cells⟩ 27) :: sl QOp.cells 27 3 (some ⟨r, o', none⟩) lw.length wc lw :: sl QAn.cells 29 4 q ops.length qc ans :: l) →
        F3.L9 q ops.length qc (some ⟨r, o', none⟩) lw.length wc (i : Int) ro v vn vc (leastF (lw.take (k + 1))) ((lw.take (k + 1)).any (hitB a)) s ops.length sc (ops.length : Int) (i : Int) (some ⟨r, o', none⟩) lw.length wc (lw.length : Int) (k : Int) H' R := by
      intro hkeep H' S'
      refine l9 _ _ _ _ ?_
      rw [er, if_neg (by rw [hkeep]; simp), List.append_nil]
      exact S'.done
    have l7 : ∀ (H' : Heap), Sat H' (pt rx (.cells ⟨x.cells⟩ 27) :: sl QOp.cells 27 3 v vn vc ((lw.take k).filter (keepB o a)) :: pt ro (.cells ⟨o.cells⟩ 27) :: sl QOp.cells 27 3 (some ⟨r, o', none⟩) lw.length wc lw :: sl QAn.cells 29 4 q ops.length qc ans :: l) →
        F3.L7 q ops.length qc (some ⟨r, o', none⟩) lw.length wc (i : Int) ro v vn vc (leastF (lw.take (k + 1))) ((lw.take (k + 1)).any (hitB a)) rx s ops.length sc (ops.length : Int) (i : Int) (some ⟨r, o', none⟩) lw.length wc (lw.length : Int) (k : Int) H' R := by
      intro H' S'
      refine F3.L7_step ?_
      unfold F3.L7n
      have qidx : ∀ (kk : Addr → Prop), (∀ r o, q = some ⟨r, o, none⟩ → kk ⟨r, o, none⟩) → idxD q ops.length (i : Int) kk := fun kk hkk => (S'.bring (.there (.there (.there (.there .here))))).idx ⟨by omega, by omega, hkk⟩
      (repeat (first | (refine Step.go ?_; intros) | refine iteB_t (by decide) ?_ | refine iteB_f (by decide) ?_ | (refine Duo.mk (by first | omega | exact rfl | decide) ?_; intros) | (refine Duo.mk (Clo.mk (by kernel_rfl)) ?_; intros)))
      refine iteB_i (fun h => ?_) (fun h => ?_)
      · simp at h
        (repeat (first | (refine Step.go ?_; intros) | refine iteB_t (by decide) ?_ | refine iteB_f (by decide) ?_ | (refine Duo.mk (by first | omega | exact rfl | decide) ?_; intros) | (refine Duo.mk (Clo.mk (by kernel_rfl)) ?_; intros)))
        refine iteB_i (fun h1 => ?_) (fun h1 => ?_)
        · simp at h1
          exact l8 (by simp [keepB, h, h1]) _ S'
        · simp at h1
          (repeat (first | (refine Step.go ?_; intros) | refine iteB_t (by decide) ?_ | refine iteB_f (by decide) ?_ | (refine Duo.mk (by first | omega | exact rfl | decide) ?_; intros) | (refine Duo.mk (Clo.mk (by kernel_rfl)) ?_; intros)))
          refine iteB_f (by simp; omega) ?_
          (repeat (first | (refine Step.go ?_; intros) | refine iteB_t (by decide) ?_ | refine iteB_f (by decide) ?_ | (refine Duo.mk (by first | omega | exact rfl | decide) ?_; intros) | (refine Duo.mk (Clo.mk (by kernel_rfl)) ?_; intros)))
          refine iteB_f (by simp; omega) ?_
          (repeat (first | (refine Step.go ?_; intros) | refine iteB_t (by decide) ?_ | refine iteB_f (by decide) ?_ | (refine Duo.mk (by first | omega | exact rfl | decide) ?_; intros) | (refine Duo.mk (Clo.mk (by kernel_rfl)) ?_; intros)))
          refine iteB_f (by simp; omega) ?_
          exact l9' (by simp [keepB, h, h1]) _ S'
      · simp at h
        (repeat (first | (refine Step.go ?_; intros) | refine iteB_t (by decide) ?_ | refine iteB_f (by decide) ?_ | (refine Duo.mk (by first | omega | exact rfl | decide) ?_; intros) | (refine Duo.mk (Clo.mk (by kernel_rfl)) ?_; intros)))
        refine iteB_i (fun h3 => ?_) (fun h3 => ?_)
        · simp at h3
          refine qidx _ ?_
          rintro r2 o2 rfl
          (repeat (first | (refine Step.go ?_; intros) | refine iteB_t (by decide) ?_ | refine iteB_f (by decide) ?_ | (refine Duo.mk (by first | omega | exact rfl | decide) ?_; intros) | (refine Duo.mk (Clo.mk (by kernel_rfl)) ?_; intros)))
          refine iteB_i (fun h1 => ?_) (fun h1 => ?_)
          · simp at h1
            exact l8 (by simp [keepB, h3, h1]) _ S'
          · simp at h1
            (repeat (first | (refine Step.go ?_; intros) | refine iteB_t (by decide) ?_ | refine iteB_f (by decide) ?_ | (refine Duo.mk (by first | omega | exact rfl | decide) ?_; intros) | (refine Duo.mk (Clo.mk (by kernel_rfl)) ?_; intros)))
            refine iteB_f (by simp; omega) ?_
            (repeat (first | (refine Step.go ?_; intros) | refine iteB_t (by decide) ?_ | refine iteB_f (by decide) ?_ | (refine Duo.mk (by first | omega | exact rfl | decide) ?_; intros) | (refine Duo.mk (Clo.mk (by kernel_rfl)) ?_; intros)))
            refine iteB_f (by simp; omega) ?_
            exact l9' (by simp [keepB, h3, h1]) _ S'
        · simp at h3
          (repeat (first | (refine Step.go ?_; intros) | refine iteB_t (by decide) ?_ | refine iteB_f (by decide) ?_ | (refine Duo.mk (by first | omega | exact rfl | decide) ?_; intros) | (refine Duo.mk (Clo.mk (by kernel_rfl)) ?_; intros)))
          refine iteB_i (fun h2 => ?_) (fun h2 => ?_)
          · simp at h2
            exact l8 (by simp [keepB, h2]) _ S'
          · simp at h2
            (repeat (first | (refine Step.go ?_; intros) | refine iteB_t (by decide) ?_ | refine iteB_f (by decide) ?_ | (refine Duo.mk (by first | omega | exact rfl | decide) ?_; intros) | (refine Duo.mk (Clo.mk (by kernel_rfl)) ?_; intros)))
            refine iteB_i (fun h4 => ?_) (fun h4 => ?_)
            · simp at h4
              exact l8 (by simp [keepB, h4]) _ S'
            · simp at h4
              exact l9' (by simp [keepB, h, h2, h3, h4]) _ S'
    have l6 : ∀ (H' : Heap), Sat H' (pt rx (.cells ⟨x.cells⟩ 27) :: sl QOp.cells 27 3 v vn vc ((lw.take k).filter (keepB o a)) :: pt ro (.cells ⟨o.cells⟩ 27) :: sl QOp.cells 27 3 (some ⟨r, o', none⟩) lw.length wc lw :: sl QAn.cells 29 4 q ops.length qc ans :: l) →
        F3.L6 q ops.length qc (some ⟨r, o', none⟩) lw.length wc (i : Int) ro v vn vc (leastF (lw.take (k + 1))) ((lw.take k).any (hitB a)) rx s ops.length sc (ops.length : Int) (i : Int) (some ⟨r, o', none⟩) lw.length wc (lw.length : Int) (k : Int) H' R := by
      intro H' S'
      refine F3.L6_step ?_
      unfold F3.L6n
      have l7 := l7 H' S'
      rw [eh] at l7
      refine iteB_i (fun h => ?_) (fun h => ?_)
      · rw [h] at l7
        simpa using l7
      · rw [h, Bool.false_or] at l7
        refine (S'.bring (.there (.there (.there (.there .here))))).idx ⟨by omega, by omega, ?_⟩
        rintro r2 o2 rfl
        (repeat (first | (refine Step.go ?_; intros) | refine iteB_t (by decide) ?_ | refine iteB_f (by decide) ?_ | (refine Duo.mk (by first | omega | exact rfl | decide) ?_; intros) | (refine Duo.mk (Clo.mk (by kernel_rfl)) ?_; intros)))
        refine iteB_i (fun h1 => ?_) (fun h1 => ?_)
        · (repeat (first | (refine Step.go ?_; intros) | refine iteB_t (by decide) ?_ | refine iteB_f (by decide) ?_ | (refine Duo.mk (by first | omega | exact rfl | decide) ?_; intros) | (refine Duo.mk (Clo.mk (by kernel_rfl)) ?_; intros)))
          have : hitB a x = (x.a == a.a) := by unfold hitB; rw [h1, Bool.true_and]
          rw [this] at l7
          exact l7
        · have : hitB a x = false := by unfold hitB; rw [h1, Bool.false_and]
          rw [this] at l7
          exact l7
    have S5 : Sat H4 (pt rx (.cells ⟨x.cells⟩ 27) :: sl QOp.cells 27 3 v vn vc ((lw.take k).filter (keepB o a)) :: pt ro (.cells ⟨o.cells⟩ 27) :: sl QOp.cells 27 3 (some ⟨r, o', none⟩) lw.length wc lw :: sl QAn.cells 29 4 q ops.length qc ans :: l) := Sat.fin
    have l6 := l6 H4 S5
    rw [el] at l6
    unfold leastS at l6
    refine iteB_i (fun h => ?_) (fun h => ?_)
    · simp at h
      rw [if_pos (.inl h)] at l6
      refine F3.L5_step ?_
      unfold F3.L5n
      (repeat (first | (refine Step.go ?_; intros) | refine iteB_t (by decide) ?_ | refine iteB_f (by decide) ?_ | (refine Duo.mk (by first | omega | exact rfl | decide) ?_; intros) | (refine Duo.mk (Clo.mk (by kernel_rfl)) ?_; intros)))
      exact l6
    · simp at h
      (repeat (first | (refine Step.go ?_; intros) | refine iteB_t (by decide) ?_ | refine iteB_f (by decide) ?_ | (refine Duo.mk (by first | omega | exact rfl | decide) ?_; intros) | (refine Duo.mk (Clo.mk (by kernel_rfl)) ?_; intros)))
      refine iteB_i (fun h1 => ?_) (fun h1 => ?_)
      · simp at h1
        rw [if_pos (.inr h1)] at l6
        refine F3.L5_step ?_
        unfold F3.L5n
        (repeat (first | (refine Step.go ?_; intros) | refine iteB_t (by decide) ?_ | refine iteB_f (by decide) ?_ | (refine Duo.mk (by first | omega | exact rfl | decide) ?_; intros) | (refine Duo.mk (Clo.mk (by kernel_rfl)) ?_; intros)))
        exact l6
      · simp at h1
        rw [if_neg (by omega)] at l6
        exact l6
end
end Go.Proofs.Ytkenjnllegbmjaa
