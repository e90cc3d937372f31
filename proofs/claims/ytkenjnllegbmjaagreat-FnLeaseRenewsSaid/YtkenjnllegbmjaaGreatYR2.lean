/- The law FnLeaseRenews is proved: for every input it returns true, and what came in reads as it did. No condition. -/
import Derived.Test.YtkenjnllegbmjaaGreatLM8
import Derived.Test.YtkenjnllegbmjaaGreatDenZC
import Derived.Test.YtkenjnllegbmjaaGreatRows
import Derived.WalkKit
import Derived.ProofKit
import Derived.OpenShut
import Derived.ShutString
import Derived.ChangeOld
import Derived.Below
set_option linter.unusedVariables false
namespace Go.Proofs.YtkenjnllegbmjaaGreat
open Go Go.Den Go.Proofs
open Go.ChangeShapes Go.WideShapes Go.ChangeAt Go.RowKit
open Go.ChangeMaps (open_string shut_string)
theorem own9 : ownKnob Tryz.prog.godebug = none := by kernel_rfl
theorem laid9 : laidOutB Tryz.prog = true := by kernel_rfl
theorem walk_FnLeaseRenews (H : Heap) {f0 f1 f2 : Nat} {s0 s1 s2 : Int} (h0 : Rd Tryz.prog H f0 2 [.int .i64 s0]) (h1 : Rd Tryz.prog H f1 2 [.int .i64 s1]) (h2 : Rd Tryz.prog H f2 2 [.int .i64 s2]) : CallsH Tryz.prog 4 #[.int .i64 s0, .int .i64 s1, .int .i64 s2] H (Gives (.bool true) H) :=
  law_ok
set_option maxRecDepth 100000 in
theorem lifted_FnLeaseRenews (os : Os) (started : os.Started) (K : Type) (enc : TypeId × Value → K) :
    ReturnsInHanded {} Tryz.checked os 4 .any (Rows.fnLeaseRenewsSpec.pre6 enc Tryz.prog Tryz.f4 Rows.fnLeaseRenewsRow.domain false) (Rows.fnLeaseRenewsSpec.post enc Tryz.prog Tryz.f4 false true false false) := by
  refine returnsInHanded_of_change (C := Tryz.checked) own9 started (by kernel_rfl) Tryz.func4
    (ChangeSpec.witness6 (enc := enc) (C := Tryz.checked) false ⟨#[], #[.int .i64 0, .int .i64 0, .int .i64 0], []⟩ 8 (by kernel_rfl) (by kernel_rfl) (by kernel_rfl) (by kernel_rfl)) ?_
  intro W base args ds gs before hval0 hW hcnd _
  have hval : ∀ (j : Nat) t v, Tryz.f4.params[j]? = some t → args[j]? = some v → Value.okWide Tryz.prog W .any base t v := hval0
  have hW' := hW
  obtain ⟨p, q, hA0, hV, rfl, hfz, hnd⟩ := hW
  have hA : DataW.TrodAll enc Tryz.prog W 0 (fun _ => true) true Tryz.f4.params.toList args.toList ds p := hA0
  rw [Tryz.params4] at hA hval
  obtain ⟨v0, vs0, d0, ds0, p0, q0, hargs, rfl, rfl, h0, r0⟩ := trodAll_cons hA
  obtain ⟨v1, vs1, d1, ds1, p1, q1, rfl, rfl, rfl, h1, r1⟩ := trodAll_cons r0
  obtain ⟨v2, vs2, d2, ds2, p2, q2, rfl, rfl, rfl, h2, r2⟩ := trodAll_cons r1
  obtain ⟨rfl, rfl, rfl⟩ := trodAll_nil r2
  obtain rfl : args = #[v0, v1, v2] := by cases args; simp_all
  obtain ⟨rfl, rfl⟩ := trodVars_none hV
  obtain ⟨c0, rfl⟩ := okWide_int Tryz.underlying2 (hval 0 2 v0 rfl rfl)
  obtain ⟨c1, rfl⟩ := okWide_int Tryz.underlying2 (hval 1 2 v1 rfl rfl)
  obtain ⟨c2, rfl⟩ := okWide_int Tryz.underlying2 (hval 2 2 v2 rfl rfl)
  have k0 := h0
  have lt0 : ∀ x ∈ p0, x.block < W.heap.size := by obtain ⟨m, hm⟩ := k0; exact DataW.trod_lt m _ _ _ hm
  obtain ⟨fu0, hf0⟩ := h0
  have rd0 := rd_of_trod hf0
  have k1 := h1
  have lt1 : ∀ x ∈ p1, x.block < W.heap.size := by obtain ⟨m, hm⟩ := k1; exact DataW.trod_lt m _ _ _ hm
  obtain ⟨fu1, hf1⟩ := h1
  have rd1 := rd_of_trod hf1
  have k2 := h2
  have lt2 : ∀ x ∈ p2, x.block < W.heap.size := by obtain ⟨m, hm⟩ := k2; exact DataW.trod_lt m _ _ _ hm
  obtain ⟨fu2, hf2⟩ := h2
  have rd2 := rd_of_trod hf2
  clear hA0 hval0
  refine ((walk_FnLeaseRenews W.heap rd0 rd1 rd2) W rfl).mono fun e W' ⟨sm, he, ex⟩ => ?_
  subst he
  have bel : Below W.heap.size W W' := ⟨sm.os, sm.tape, sm.output, ex.size, fun b hb => ex.block b hb⟩
  exact ⟨_, rfl, _, _, _, [], _, [], hW', trodAll_mk1 (shut_bool Tryz.underlying4 _), (trodAll_cons_mk (Below.trod laid9 (by kernel_rfl) (of_decide_eq_true (by kernel_rfl)) k0 bel lt0) (trodAll_cons_mk (Below.trod laid9 (by kernel_rfl) (of_decide_eq_true (by kernel_rfl)) k1 bel lt1) (trodAll_cons_mk (Below.trod laid9 (by kernel_rfl) (of_decide_eq_true (by kernel_rfl)) k2 bel lt2) trodAll_mk0))), rfl, bel.frame _, fun h => by cases h⟩
theorem over_FnLeaseRenews : Rows.fnLeaseRenewsRow.holds Tryz.pinned (OpenSpec.ofChange Rows.fnLeaseRenewsSpec) :=
  OpenClaim.holds_of_wide 4 Tryz.f4 rfl rfl rfl rfl rfl rfl rfl ⟨rfl, rfl, rfl, rfl, rfl⟩ rfl rfl rfl rfl rfl (by kernel_rfl) Tryz.func4 (by kernel_rfl)
    (of_decide_eq_true (by kernel_rfl)) (by unfold Func.isWrapper; first | (rw [if_pos (by decide +kernel)]; kernel_rfl) | (rw [if_neg (by decide +kernel)]; exact ⟨rfl, rfl⟩))
    (fun os started K enc _ => lifted_FnLeaseRenews os started K enc)
/-- The given statement. -/
theorem proved_FnLeaseRenews : Rows.FnLeaseRenewsSaid := over_FnLeaseRenews
end Go.Proofs.YtkenjnllegbmjaaGreat
