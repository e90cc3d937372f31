/- The law FnQueueTimes is proved: for every input it returns true, and what came in reads as it did. No condition. -/
import Derived.Test.YtkenjnllegbmjaaQN
import Derived.Test.YtkenjnllegbmjaaDenE
import Derived.Test.YtkenjnllegbmjaaRows
import Derived.WalkKit
import Derived.ProofKit
import Derived.OpenShut
import Derived.ShutString
import Derived.ChangeOld
import Derived.Below
set_option linter.unusedVariables false
namespace Go.Proofs.Ytkenjnllegbmjaa
open Go Go.Den Go.Proofs
open Go.ChangeShapes Go.WideShapes Go.ChangeAt Go.RowKit
open Go.ChangeMaps (open_string shut_string)
theorem own9 : ownKnob Try.prog.godebug = none := by kernel_rfl
theorem laid9 : laidOutB Try.prog = true := by kernel_rfl
section
variable {H : Heap} {f : Nat} {cs : List Value}
theorem und3 : Try.prog.underlying 3 = some (.int .i64) := by kernel_rfl
theorem und2 : Try.prog.underlying 2 = some (.int .i64) := by kernel_rfl
theorem rdT27 (h : Rd Try.prog H f 27 cs) : ∃ (a0 : Int) (a1 : Int) (a2 : Int), cs = [.int .i64 a0, .int .i64 a1, .int .i64 a2] ∧ (IntKind.min .i64 ≤ a0 ∧ a0 ≤ IntKind.max .i64) ∧ (IntKind.min .i64 ≤ a1 ∧ a1 ≤ IntKind.max .i64) ∧ (IntKind.min .i64 ≤ a2 ∧ a2 ≤ IntKind.max .i64) := by
  obtain ⟨g, hl, hp⟩ := rd_struct h (k := 3) (fs := [(3, 0), (2, 1), (2, 2)]) (by kernel_rfl) (by kernel_rfl) (by kernel_rfl)
  obtain ⟨v0, r0, rfl, w0⟩ := cons_of hl
  obtain ⟨v1, r1, rfl, w1⟩ := cons_of w0
  obtain ⟨v2, r2, rfl, w2⟩ := cons_of w1
  obtain rfl := List.eq_nil_of_length_eq_zero w2
  obtain ⟨h0, h1, h2, _⟩ := hp
  have z2 : Try.prog.cellsOf 2 = 1 := by kernel_rfl
  have z3 : Try.prog.cellsOf 3 = 1 := by kernel_rfl
  simp only [z2, z3, List.drop_zero, List.drop_succ_cons, List.take_succ_cons, List.take_zero] at h0 h1 h2
  obtain ⟨b0, e0, l0, u0⟩ := rd_int h0 und3
  cases e0
  obtain ⟨b1, e1, l1, u1⟩ := rd_int h1 und2
  cases e1
  obtain ⟨b2, e2, l2, u2⟩ := rd_int h2 und2
  cases e2
  exact ⟨b0, b1, b2, rfl, ⟨l0, u0⟩, ⟨l1, u1⟩, ⟨l2, u2⟩⟩
end
theorem un22 : Try.prog.underlying 22 = some (.slice 27) := by kernel_rfl
theorem walkr_FnQueueTimes (H : Heap) {f0 : Nat} {a : Option Addr} {n c : Nat} (h0 : Rd Try.prog H f0 22 [.slice a n c]) : CallsH Try.prog 3 #[.slice a n c] H (Gives (.bool true) H) := by
  obtain ⟨p, n', c', l, e, hn, _, _, hR, _⟩ := rd_slice (fl := QOp.cells) (z := 3) (good := fun _ => True) h0 un22 (by kernel_rfl) (by
    intro g es h
    obtain ⟨a0, a1, a2, rfl, _⟩ := rdT27 h
    exact ⟨⟨a0, a1, a2⟩, rfl, trivial⟩)
  cases e
  exact walk_FnQueueTimes H a n c l hn hR
set_option maxRecDepth 100000 in
theorem lifted_FnQueueTimes (os : Os) (started : os.Started) (K : Type) (enc : TypeId × Value → K) :
    ReturnsInHanded {} Try.checked os 3 .any (Rows.fnQueueTimesSpec.pre6 enc Try.prog Try.f3 Rows.fnQueueTimesRow.domain false) (Rows.fnQueueTimesSpec.post enc Try.prog Try.f3 false true false false) := by
  refine returnsInHanded_of_change (C := Try.checked) own9 started (by kernel_rfl) Try.func3
    (ChangeSpec.witness6 (enc := enc) (C := Try.checked) false ⟨#[], #[.slice none 0 0], []⟩ 8 (by kernel_rfl) (by kernel_rfl) (by kernel_rfl) (by kernel_rfl)) ?_
  intro W base args ds gs before hval0 hW hcnd _
  have hval : ∀ (j : Nat) t v, Try.f3.params[j]? = some t → args[j]? = some v → Value.okWide Try.prog W .any base t v := hval0
  have hW' := hW
  obtain ⟨p, q, hA0, hV, rfl, hfz, hnd⟩ := hW
  have hA : DataW.TrodAll enc Try.prog W 0 (fun _ => true) true Try.f3.params.toList args.toList ds p := hA0
  rw [Try.params3] at hA hval
  obtain ⟨v0, vs0, d0, ds0, p0, q0, hargs, rfl, rfl, h0, r0⟩ := trodAll_cons hA
  obtain ⟨rfl, rfl, rfl⟩ := trodAll_nil r0
  obtain rfl : args = #[v0] := by cases args; simp_all
  obtain ⟨rfl, rfl⟩ := trodVars_none hV
  obtain ⟨a0, l0, m0, rfl⟩ := okWide_slice Try.underlying22 (hval 0 22 v0 rfl rfl)
  have k0 := h0
  have lt0 : ∀ x ∈ p0, x.block < W.heap.size := by obtain ⟨m, hm⟩ := k0; exact DataW.trod_lt m _ _ _ hm
  obtain ⟨fu0, hf0⟩ := h0
  have rd0 := rd_of_trod hf0
  clear hA0 hval0
  refine ((walkr_FnQueueTimes W.heap rd0) W rfl).mono fun e W' ⟨sm, he, ex⟩ => ?_
  subst he
  have bel : Below W.heap.size W W' := ⟨sm.os, sm.tape, sm.output, ex.size, fun b hb => ex.block b hb⟩
  exact ⟨_, rfl, _, _, _, [], _, [], hW', trodAll_mk1 (shut_bool Try.underlying4 _), (trodAll_cons_mk (Below.trod laid9 (by kernel_rfl) (of_decide_eq_true (by kernel_rfl)) k0 bel lt0) trodAll_mk0), rfl, bel.frame _, fun h => by cases h⟩
theorem over_FnQueueTimes : Rows.fnQueueTimesRow.holds Try.pinned (OpenSpec.ofChange Rows.fnQueueTimesSpec) :=
  OpenClaim.holds_of_wide 3 Try.f3 rfl rfl rfl rfl rfl rfl rfl ⟨rfl, rfl, rfl, rfl, rfl⟩ rfl rfl rfl rfl rfl (by kernel_rfl) Try.func3 (by kernel_rfl)
    (of_decide_eq_true (by kernel_rfl)) (by unfold Func.isWrapper; first | (rw [if_pos (by decide +kernel)]; kernel_rfl) | (rw [if_neg (by decide +kernel)]; exact ⟨rfl, rfl⟩))
    (fun os started K enc _ => lifted_FnQueueTimes os started K enc)
/-- The given statement. -/
theorem proved_FnQueueTimes : Rows.FnQueueTimesSaid := over_FnQueueTimes
end Go.Proofs.Ytkenjnllegbmjaa
