/- What functions of this seat do, each proved by a walk; no condition. -/
import Derived.Test.YtpankppliidaoaaT33
set_option linter.unusedVariables false
set_option linter.unusedSimpArgs false
namespace Go.Proofs.Ytpankppliidaoaa
open Go Go.Den Go.Proofs
def textField (k : Int) (ys : List Int) : List Int := if ys.length = 0 then [] else bytesField k ys
theorem textField_len (k : Int) (ys : List Int) : (textField k ys).length ≤ ys.length + 20 := by
  unfold textField
  split
  · simp
  · unfold bytesField
    have := vint_len 10 (orZ .u64 (shlZ .u64 (IntKind.wrap .u64 k) 3) 2); have := vint_len 10 (IntKind.wrap .u64 (ys.length : Int))
    simp only [List.length_append]; omega
/-- The store's bytes of a key-value. -/
def mar (ys zs : List Int) (cr mod ver lease : Int) : List Int := textField 1 ys ++ intField 2 cr ++ intField 3 mod ++ intField 4 ver ++ textField 5 zs ++ intField 6 lease
/-- A key-value of the store, as far as its bytes go. -/
structure PbAt (F : Heap) (kb : Nat) (ys zs : List Int) (cr mod ver lease : Int) : Prop where
  ex : ∃ (kp : Option Addr) (kc : Nat) (vp : Option Addr) (vc : Nat) (T : TypeId), F[kb]? = some (.cells ⟨[.slice kp ys.length kc, .int .i64 cr, .int .i64 mod, .int .i64 ver, .slice vp zs.length vc, .int .i64 lease]⟩ T) ∧ cellsAt F kp (u8v ys) ∧ cellsAt F vp (u8v zs)
section
variable {F : Heap} {kb : Nat} {ys zs : List Int} {cr mod ver lease : Int}
theorem putFields_ok (h : PbAt F kb ys zs cr mod ver lease) (hy : ys.length ≤ 100000) (hz : zs.length ≤ 100000) :
    CallsH Try.prog 100 ⟨[.pointer (some ⟨kb, 0, none⟩)]⟩ F (More F Nn [] (mar ys zs cr mod ver lease)) := by
  obtain ⟨kp, kc, vp, vc, T, hb, hk, hv⟩ := h
  have at_ : ∀ {H' : Heap} {b E z p n c vs} {j : Nat} {v : Value}, Grow F Nn H' b E z p n c vs → [Value.slice kp ys.length kc, .int .i64 cr, .int .i64 mod, .int .i64 ver, .slice vp zs.length vc, .int .i64 lease][j]? = some v → hcell H' ⟨kb, j, none⟩ = some v := fun g hj => hcell_of (g.st.ext.block_some hb) hj
  -- behind the value
  have tail : ∀ (H : Heap) (q : Option Addr) (qc : Nat) (xs : List Int), xs.length ≤ 400000 → Grow F Nn H [] 5 1 q xs.length qc (u8v xs) → F100.L1 (some ⟨kb, 0, none⟩) q xs.length qc H (More F Nn [] (xs ++ intField 6 lease)) := by
    intro H q qc xs hl g
    refine F100.L1_step ?_
    unfold F100.L1n
    refine nilD_i ?_
    rw [add_mk]
    refine ⟨_, at_ g rfl, ?_⟩
    refine callD_i (putInt_ok 6 lease xs H q qc (by omega) g) ?_
    rintro e H1 ⟨q1, qc1, rfl, g1⟩
    exact tSl_i ⟨q1, qc1, rfl, g1⟩
  -- behind the key
  have mid : ∀ (H : Heap) (q : Option Addr) (qc : Nat) (xs : List Int), xs.length ≤ 150000 → Grow F Nn H [] 5 1 q xs.length qc (u8v xs) → F100.L0 (some ⟨kb, 0, none⟩) q xs.length qc H (More F Nn [] (xs ++ intField 2 cr ++ intField 3 mod ++ intField 4 ver ++ textField 5 zs ++ intField 6 lease)) := by
    intro H q qc xs hl g
    have n2 := intField_len 2 cr; have n3 := intField_len 3 mod; have n4 := intField_len 4 ver; have n5 := textField_len 5 zs
    refine F100.L0_step ?_
    unfold F100.L0n
    refine nilD_i ?_
    rw [add_mk]
    refine ⟨_, at_ g rfl, ?_⟩
    refine callD_i (putInt_ok 2 cr xs H q qc (by omega) g) ?_
    rintro e H1 ⟨q1, qc1, rfl, g1⟩
    refine tSl_i (nilD_i ?_)
    rw [add_mk]
    refine ⟨_, at_ g1 rfl, ?_⟩
    refine callD_i (putInt_ok 3 mod _ H1 q1 qc1 (by simp only [List.length_append]; omega) g1) ?_
    rintro e H2 ⟨q2, qc2, rfl, g2⟩
    refine tSl_i (nilD_i ?_)
    rw [add_mk]
    refine ⟨_, at_ g2 rfl, ?_⟩
    refine callD_i (putInt_ok 4 ver _ H2 q2 qc2 (by simp only [List.length_append]; omega) g2) ?_
    rintro e H3 ⟨q3, qc3, rfl, g3⟩
    refine tSl_i (nilD_i ?_)
    rw [add_mk]
    refine ⟨_, _, _, at_ g3 rfl, ?_⟩
    refine iteB_i (fun hc => ?_) (fun hc => ?_)
    · have hne : ¬ zs.length = 0 := by simp at hc; omega
      refine nilD_i ?_
      rw [add_mk]
      refine ⟨_, _, _, at_ g3 rfl, ?_⟩
      refine callD_i (putBytes_ok 5 zs _ H3 q3 vp qc3 vc (by simp only [List.length_append]; omega) hz hv g3) ?_
      rintro e H4 ⟨q4, qc4, rfl, g4⟩
      refine tSl_i ?_
      have e5 : textField 5 zs = bytesField 5 zs := by unfold textField; rw [if_neg hne]
      have n5' : (bytesField 5 zs).length ≤ zs.length + 20 := by rw [← e5]; exact textField_len 5 zs
      rw [e5]
      exact tail H4 q4 qc4 _ (by simp only [List.length_append]; omega) g4
    · have he : zs.length = 0 := by have := of_decide_eq_false hc; omega
      have e5 : textField 5 zs = [] := by unfold textField; rw [if_pos he]
      rw [e5, List.append_nil]
      exact tail H3 q3 qc3 _ (by simp only [List.length_append]; omega) g3
  refine F100.calls ?_
  unfold F100.go
  refine nilD_i ?_
  refine ⟨_, _, _, hcell_of hb rfl, ?_⟩
  have g0 : Grow F Nn F [] 5 1 none 0 0 (u8v []) := .nil (St.start F)
  refine iteB_i (fun hc => ?_) (fun hc => ?_)
  · have hne : ¬ ys.length = 0 := by simp at hc; omega
    refine nilD_i ?_
    refine ⟨_, _, _, hcell_of hb rfl, ?_⟩
    refine callD_i (putBytes_ok (b := []) 1 ys [] F none kp 0 kc (by simp) hy hk g0) ?_
    rintro e H1 ⟨q1, qc1, rfl, g1⟩
    refine tSl_i ?_
    have n1 := textField_len 1 ys
    have e1 : textField 1 ys = bytesField 1 ys := by unfold textField; rw [if_neg hne]
    have n1' : (bytesField 1 ys).length ≤ ys.length + 20 := by rw [← e1]; exact n1
    have := mid H1 q1 qc1 ([] ++ bytesField 1 ys) (by simp only [List.nil_append]; omega) g1
    unfold mar
    rw [e1]
    exact this
  · have he : ys.length = 0 := by have := of_decide_eq_false hc; omega
    have e1 : textField 1 ys = [] := by unfold textField; rw [if_pos he]
    have := mid F none 0 [] (by simp) g0
    unfold mar
    rw [e1]
    exact this
theorem mth106 : mthOk Try.prog 106 "PutFields" 100 true = true := by kernel_rfl
theorem ptr106 : ptrT Try.prog 106 = true := by kernel_rfl
theorem fnOk100 : fnOk Try.prog 100 = true := by kernel_rfl
theorem marshal_ok (h : PbAt F kb ys zs cr mod ver lease) (hy : ys.length ≤ 100000) (hz : zs.length ≤ 100000) :
    CallsH Try.prog 82 ⟨[.iface 106 (.pointer (some ⟨kb, 0, none⟩))]⟩ F (fun e H1 => ∃ q qc, e = .returned (.tuple ⟨[.slice q (mar ys zs cr mod ver lease).length qc, .nilIface]⟩) ∧ Grow F Nn H1 [] 5 1 q (mar ys zs cr mod ver lease).length qc (u8v (mar ys zs cr mod ver lease))) := by
  refine F82.calls (m := .mk 106 (.pointer (some ⟨kb, 0, none⟩))) ?_
  unfold F82.go
  refine callI_i mth106 ptr106 fnOk100 ?_
  refine callD_i (putFields_ok h hy hz) ?_
  rintro e H1 ⟨q, qc, rfl, g⟩
  exact tSl_i ⟨q, qc, rfl, g⟩
end
end Go.Proofs.Ytpankppliidaoaa
