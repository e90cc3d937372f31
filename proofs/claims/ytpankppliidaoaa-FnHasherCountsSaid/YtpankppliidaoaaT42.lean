/- What functions of this seat do, each proved by a walk; no condition. -/
import Derived.Test.YtpankppliidaoaaT41
import Derived.Test.YtpankppliidaoaaDenL
set_option linter.unusedVariables false
set_option linter.unusedSimpArgs false
namespace Go.Proofs.Ytpankppliidaoaa
open Go Go.Den Go.Proofs
/-- Whether a row counts into the hash. -/
def countsB (compact rev : Int) (ks : List RevR) (x : RowR) : Bool := !decide (x.rev.1 > rev) && !(x.gone && x.rev.1 == compact) && (decide (x.rev.1 > compact) || ks.isEmpty || ks.contains x.rev)
/-- A hasher: its blocks. -/
structure HashSt (H : Heap) (sb hb mb : Nat) (c compact rev : Int) (ks : List RevR) : Prop where
  s : H[sb]? = some (.cells ⟨[.int .u32 c]⟩ 161)
  h : H[hb]? = some (.cells ⟨[.pointer (some ⟨sb, 0, none⟩), .int .i64 compact, .int .i64 rev, .map (some mb)]⟩ 132)
  m : RevMap H mb ks
def rowFits (x : RowR) : Prop := 0 ≤ x.rev.1 ∧ x.rev.1 < 9223372036854775808 ∧ 0 ≤ x.rev.2 ∧ x.rev.2 < 9223372036854775808 ∧ (marR x).length ≤ 1000000
theorem val_cells {H : Heap} {ban : Nat → Prop} {y : KV2} (h : y.At H ban) : cellsAt H y.vp (u8v (marR y.row)) := by
  rcases h.2.2 with h0 | ⟨r, sp, e, _, hb⟩
  · intro j v hj
    have : u8v (marR y.row) = [] := by unfold u8v; rw [List.eq_nil_of_length_eq_zero h0]; rfl
    rw [this] at hj; simp at hj
  · intro j v hj
    refine ⟨_, e, ?_⟩
    rw [add_mk, Nat.zero_add]
    refine hcell_of hb ?_
    rw [List.getElem?_append_left (lt_of hj)]
    exact hj
theorem key_cells {H : Heap} {ban : Nat → Prop} {y : KV2} (h : y.At H ban) : cellsAt H (some ⟨y.kr, 0, none⟩) (u8v (keyI y.row)) := by
  intro j v hj
  refine ⟨_, rfl, ?_⟩
  rw [add_mk, Nat.zero_add]
  refine hcell_of h.2.1 ?_
  unfold keyB
  unfold keyI u8v at hj
  cases hg : y.row.gone with
  | true =>
    rw [hg] at hj
    rw [← u8v_encI]
    simpa [u8v] using hj
  | false =>
    rw [hg] at hj
    simp only [Bool.false_eq_true, if_false, List.append_nil] at hj
    rw [List.getElem?_append_left]
    · rw [← u8v_encI]; exact hj
    · rw [← u8v_encI]; exact lt_of hj
theorem cells_keep {H H1 : Heap} {sb : Nat} {c c' : Int} {T : TypeId} {p : Option Addr} {xs : List Int} (hs : H[sb]? = some (.cells ⟨[.int .u32 c]⟩ T)) (u : Upd sb (.cells ⟨[.int .u32 c']⟩ T) H H1) (h : cellsAt H p (u8v xs)) : cellsAt H1 p (u8v xs) := by
  intro j v hj
  obtain ⟨a, e, hc⟩ := h j v hj
  refine ⟨a, e, ?_⟩
  have hv : ∃ n, v = .int .u8 n := by
    unfold u8v at hj
    rw [List.getElem?_map] at hj
    cases hx : xs[j]? with
    | none => rw [hx] at hj; cases hj
    | some n => rw [hx] at hj; exact ⟨n, by simpa using hj.symm⟩
  obtain ⟨n, rfl⟩ := hv
  by_cases hb : (a.add j).block = sb
  · exfalso
    unfold hcell at hc
    rw [hb, hs] at hc
    simp only at hc
    split at hc
    · cases hc
    · cases h0 : (a.add j).off with
      | zero => rw [h0] at hc; simp at hc
      | succ k => rw [h0] at hc; simp at hc
  · rw [← hc]
    refine hcell_same (u.same _ ?_ hb)
    unfold hcell at hc
    split at hc
    · rename_i h2; exact block_lt h2
    · cases hc
theorem write_ok {H : Heap} {sb hb mb : Nat} {c compact rev : Int} {ks : List RevR} {y : KV2} (S0 : HashSt H sb hb mb c compact rev ks) (hy : y.At H Nn) (hf : rowFits y.row) (hc0 : -1 ≤ compact) (hc1 : compact < 4611686018427387904) (hr0 : 0 ≤ rev) (hr1 : rev < 4611686018427387904) :
    CallsH Try.prog 70 ⟨[.pointer (some ⟨hb, 0, none⟩), .slice (some ⟨y.kr, 0, none⟩) (keyN y.row) 18, .slice y.vp (marR y.row).length y.vc]⟩ H
      (fun e H1 => e = .returned (.tuple ⟨[]⟩) ∧ Upd sb (.cells ⟨[.int .u32 (if countsB compact rev ks y.row then crcUpd (crcUpd c (keyI y.row)) (marR y.row) else c)]⟩ 161) H H1) := by
  obtain ⟨hm0, hm1, hs0, hs1, hml⟩ := hf
  have hkn : keyN y.row = 17 ∨ keyN y.row = 18 := by unfold keyN; cases y.row.gone <;> simp
  obtain ⟨es, clk, hmb, hmk, hmv⟩ := S0.m
  have n1 : hb ≠ sb := fun e => by have := S0.h; rw [e, S0.s] at this; simp at this
  have n2 : y.kr ≠ sb := fun e => by have := hy.2.1; rw [e, S0.s] at this; simp at this
  have n3 : mb ≠ sb := fun e => by rw [e, S0.s] at hmb; simp at hmb
  have A1 := atX (H0 := H) n1 S0.h
  refine F70.calls ?_
  unfold F70.go
  have S := Sat.startX S0.s
  have hkr : H[y.kr]? = some (.cells ⟨encB y.row.rev.1 y.row.rev.2 ++ [.int .u8 (if y.row.gone then 116 else 0)]⟩ 5) := by
    rw [hy.2.1]; unfold keyB; cases y.row.gone <;> rfl
  refine gives_i S (bytesToRev_any _ _ hm0 hm1 hs0 hs1 y.kr (keyN y.row) hkn _ H hkr) ?_
  intro H1 _ S1
  iterate 6 refine Step.go ?_
  refine Step.go ?_
  intro r H1' S1'
  (repeat (first | (refine Step.go ?_; intros) | refine iteB_t (by decide) ?_ | refine iteB_f (by decide) ?_ | (refine Duo.mk (by first | omega | exact rfl | decide) ?_; intros) | (refine Duo.mk (Clo.mk (by kernel_rfl)) ?_; intros)))
  refine gives_i ‹_› (greaterThan_ok _ _ _ _ _) ?_
  intro H2 _ S2
  (repeat (first | (refine Step.go ?_; intros) | refine iteB_t (by decide) ?_ | refine iteB_f (by decide) ?_ | (refine Duo.mk (by first | omega | exact rfl | decide) ?_; intros) | (refine Duo.mk (Clo.mk (by kernel_rfl)) ?_; intros)))
  rw [wrap64_small (i := rev + 1) (by omega) (by omega)]
  have gt1 : gtB (rev + 1) 0 y.row.rev.1 y.row.rev.2 = !decide (y.row.rev.1 > rev) := by
    unfold gtB
    rw [Bool.eq_iff_iff]; simp; omega
  have hgone : (keyN y.row == 18 && (if y.row.gone then (116 : Int) else 0) == 116) = y.row.gone := by
    unfold keyN; cases y.row.gone <;> rfl
  rw [gt1]
  refine iteB_i (fun h => ?_) (fun h => ?_)
  · have hcf : countsB compact rev ks y.row = false := by unfold countsB; simp at h; simp [h]
    rw [hcf, if_neg (by simp)]
    exact ⟨rfl, Sat.onlyX⟩
  have h1 : y.row.rev.1 ≤ rev := by simp at h; exact h
  have S3 : Sat H2 _ := ‹_›
  refine gives_i S3 (bytesToBk_ok _ _ hm0 hm1 hs0 hs1 y.kr (keyN y.row) 18 hkn (by omega) [.int .u8 (if y.row.gone then 116 else 0)] (if y.row.gone then 116 else 0) H2 (fun k v hk hv => hcell_of (S3.thereX n2 hkr) hv) (fun h => rfl)) ?_
  intro H3 _ S4
  rw [hgone]
  (repeat (first | (refine Step.go ?_; intros) | refine iteB_t (by decide) ?_ | refine iteB_f (by decide) ?_ | (refine Duo.mk (by first | omega | exact rfl | decide) ?_; intros) | (refine Duo.mk (Clo.mk (by kernel_rfl)) ?_; intros)))
  refine gives_i ‹_› (greaterThan_ok _ _ _ _ _) ?_
  intro H4 _ S5
  (repeat (first | (refine Step.go ?_; intros) | refine iteB_t (by decide) ?_ | refine iteB_f (by decide) ?_ | (refine Duo.mk (by first | omega | exact rfl | decide) ?_; intros) | (refine Duo.mk (Clo.mk (by kernel_rfl)) ?_; intros)))
  rw [wrap64_small (i := compact + 1) (by omega) (by omega)]
  have gt2 : gtB (compact + 1) 0 y.row.rev.1 y.row.rev.2 = !decide (y.row.rev.1 > compact) := by
    unfold gtB
    rw [Bool.eq_iff_iff]; simp; omega
  rw [gt2]
  have l2 : ∀ H', Sat H' (pt r (.cells ⟨[.int .i64 y.row.rev.1, .int .i64 y.row.rev.2]⟩ 75) :: pt sb (.cells ⟨[.int .u32 c]⟩ 161) :: oldX sb H :: []) → (decide (y.row.rev.1 > compact) || ks.isEmpty || ks.contains y.row.rev) = true →
      F70.L2 (some ⟨hb, 0, none⟩) (some ⟨y.kr, 0, none⟩) (keyN y.row) 18 y.vp (marR y.row).length y.vc r y.row.gone H' (fun e H1 => e = .returned (.tuple ⟨[]⟩) ∧ Upd sb (.cells ⟨[.int .u32 (if countsB compact rev ks y.row then crcUpd (crcUpd c (keyI y.row)) (marR y.row) else c)]⟩ 161) H H1) := by
    intro H' S' hk
    have l3 : countsB compact rev ks y.row = true → F70.L3 (some ⟨hb, 0, none⟩) (some ⟨y.kr, 0, none⟩) (keyN y.row) 18 y.vp (marR y.row).length y.vc H' (fun e H1 => e = .returned (.tuple ⟨[]⟩) ∧ Upd sb (.cells ⟨[.int .u32 (if countsB compact rev ks y.row then crcUpd (crcUpd c (keyI y.row)) (marR y.row) else c)]⟩ 161) H H1) := by
      intro hct
      refine F70.L3_step ?_
      unfold F70.L3n
      rw [hct, if_pos rfl]
      have u0 : Upd sb (.cells ⟨[.int .u32 c]⟩ 161) H H' := Sat.onlyX
      (repeat (first | (refine Step.go ?_; intros) | refine iteB_t (by decide) ?_ | refine iteB_f (by decide) ?_ | (refine Duo.mk (by first | omega | exact rfl | decide) ?_; intros) | (refine Duo.mk (Clo.mk (by kernel_rfl)) ?_; intros)))
      rw [← keyI_len]
      refine call_of (crc_ok sb c 161 (some ⟨y.kr, 0, none⟩) 18 (keyI y.row) (by rw [keyI_len]; omega) H' S'.obj (cells_keep S0.s u0 (key_cells hy))) ?_
      rintro e H5 ⟨rfl, u1⟩
      have S6 := S'.put (r := sb) (inferInstance) u1
      have u2 : Upd sb (.cells ⟨[.int .u32 (crcUpd c (keyI y.row))]⟩ 161) H H5 := Sat.onlyX
      (repeat (first | (refine Step.go ?_; intros) | refine iteB_t (by decide) ?_ | refine iteB_f (by decide) ?_ | (refine Duo.mk (by first | omega | exact rfl | decide) ?_; intros) | (refine Duo.mk (Clo.mk (by kernel_rfl)) ?_; intros)))
      refine call_of (crc_ok sb _ 161 y.vp y.vc (marR y.row) hml H5 S6.obj (cells_keep S0.s u2 (val_cells hy))) ?_
      rintro e H7 ⟨rfl, u3⟩
      have S8 := S6.put (r := sb) (inferInstance) u3
      (repeat (first | (refine Step.go ?_; intros) | refine iteB_t (by decide) ?_ | refine iteB_f (by decide) ?_ | (refine Duo.mk (by first | omega | exact rfl | decide) ?_; intros) | (refine Duo.mk (Clo.mk (by kernel_rfl)) ?_; intros)))
      exact ⟨rfl, Sat.onlyX⟩
    refine F70.L2_step ?_
    unfold F70.L2n
    (repeat (first | (refine Step.go ?_; intros) | refine iteB_t (by decide) ?_ | refine iteB_f (by decide) ?_ | (refine Duo.mk (by first | omega | exact rfl | decide) ?_; intros) | (refine Duo.mk (Clo.mk (by kernel_rfl)) ?_; intros)))
    refine iteB_i (fun h => ?_) (fun h => ?_)
    · refine iteB_i (fun hg => ?_) (fun hg => ?_)
      · have hcf : countsB compact rev ks y.row = false := by unfold countsB; rw [hg, h]; simp
        rw [hcf, if_neg (by simp)]
        exact ⟨rfl, Sat.onlyX⟩
      · exact l3 (by unfold countsB; rw [hg, hk]; simp; exact h1)
    · exact l3 (by unfold countsB; rw [h, hk]; simp; exact h1)
  refine iteB_i (fun h => ?_) (fun h => ?_)
  · have h2 : y.row.rev.1 ≤ compact := by simp at h; exact h
    (repeat (first | (refine Step.go ?_; intros) | refine iteB_t (by decide) ?_ | refine iteB_f (by decide) ?_ | (refine Duo.mk (by first | omega | exact rfl | decide) ?_; intros) | (refine Duo.mk (Clo.mk (by kernel_rfl)) ?_; intros)))
    have S7 : Sat H4 _ := ‹_›
    refine revLen (S7.thereX n3 hmb) hmk ?_
    (repeat (first | (refine Step.go ?_; intros) | refine iteB_t (by decide) ?_ | refine iteB_f (by decide) ?_ | (refine Duo.mk (by first | omega | exact rfl | decide) ?_; intros) | (refine Duo.mk (Clo.mk (by kernel_rfl)) ?_; intros)))
    refine iteB_i (fun h3 => ?_) (fun h3 => ?_)
    · refine F70.L0_step ?_
      unfold F70.L0n
      have l1 : ∀ H', Sat H' (pt r (.cells ⟨[.int .i64 y.row.rev.1, .int .i64 y.row.rev.2]⟩ 75) :: pt sb (.cells ⟨[.int .u32 c]⟩ 161) :: oldX sb H :: []) →
          F70.L1 (some ⟨hb, 0, none⟩) (some ⟨y.kr, 0, none⟩) (keyN y.row) 18 y.vp (marR y.row).length y.vc r y.row.gone (ks.contains y.row.rev) H' (fun e H1 => e = .returned (.tuple ⟨[]⟩) ∧ Upd sb (.cells ⟨[.int .u32 (if countsB compact rev ks y.row then crcUpd (crcUpd c (keyI y.row)) (marR y.row) else c)]⟩ 161) H H1) := by
        intro H' S'
        refine F70.L1_step ?_
        unfold F70.L1n
        refine iteB_i (fun h4 => ?_) (fun h4 => ?_)
        · have hne : ks.isEmpty = false := by
            cases ks with
            | nil => simp at h3
            | cons a l => rfl
          have hd : decide (y.row.rev.1 > compact) = false := by simp; exact h2
          have hcf : countsB compact rev ks y.row = false := by unfold countsB; simp only [Bool.not_eq_true'] at h4; rw [h4, hne, hd]; simp
          rw [hcf, if_neg (by simp)]
          exact ⟨rfl, Sat.onlyX⟩
        · exact l2 H' S' (by simp only [Bool.not_eq_false'] at h4; rw [h4]; simp)
      refine ⟨?_, ?_⟩
      · (repeat (first | (refine Step.go ?_; intros) | refine iteB_t (by decide) ?_ | refine iteB_f (by decide) ?_ | (refine Duo.mk (by first | omega | exact rfl | decide) ?_; intros) | (refine Duo.mk (Clo.mk (by kernel_rfl)) ?_; intros)))
        rename_i S8
        refine revLookup (S8.thereX n3 hmb) hmk hmv y.row.rev ?_
        (repeat (first | (refine Step.go ?_; intros) | refine iteB_t (by decide) ?_ | refine iteB_f (by decide) ?_ | (refine Duo.mk (by first | omega | exact rfl | decide) ?_; intros) | (refine Duo.mk (Clo.mk (by kernel_rfl)) ?_; intros)))
        exact l1 _ Sat.fin
      · (repeat (first | (refine Step.go ?_; intros) | refine iteB_t (by decide) ?_ | refine iteB_f (by decide) ?_ | (refine Duo.mk (by first | omega | exact rfl | decide) ?_; intros) | (refine Duo.mk (Clo.mk (by kernel_rfl)) ?_; intros)))
        refine revLookup (S7.thereX n3 hmb) hmk hmv y.row.rev ?_
        (repeat (first | (refine Step.go ?_; intros) | refine iteB_t (by decide) ?_ | refine iteB_f (by decide) ?_ | (refine Duo.mk (by first | omega | exact rfl | decide) ?_; intros) | (refine Duo.mk (Clo.mk (by kernel_rfl)) ?_; intros)))
        exact l1 _ Sat.fin
    · have : ks.isEmpty = true := by
        cases ks with
        | nil => rfl
        | cons a l => simp at h3
      exact l2 _ Sat.fin (by rw [this]; simp)
  · exact l2 _ Sat.fin (by simp at h; simp [h])
end Go.Proofs.Ytpankppliidaoaa
