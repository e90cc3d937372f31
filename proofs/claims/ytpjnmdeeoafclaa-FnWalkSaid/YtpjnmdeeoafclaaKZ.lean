/- The law FnWalk is proved: for every input it returns true, and what came in reads as it did. No condition. -/
import Derived.Test.YtpjnmdeeoafclaaKW
import Derived.Test.YtpjnmdeeoafclaaDenE
import Derived.Test.YtpjnmdeeoafclaaRows
import Derived.WalkKit
import Derived.ProofKit
import Derived.OpenShut
import Derived.ShutString
import Derived.ChangeOld
import Derived.Below
set_option linter.unusedVariables false
namespace Go.Proofs.Ytpjnmdeeoafclaa
open Go Go.Den Go.Proofs
open Go.ChangeShapes Go.WideShapes Go.ChangeAt Go.RowKit
open Go.ChangeMaps (open_string shut_string)
theorem own9 : ownKnob Try.prog.godebug = none := by kernel_rfl
theorem laid9 : laidOutB Try.prog = true := by kernel_rfl
section
variable {H : Heap} {f : Nat} {cs : List Value}
theorem und2 : Try.prog.underlying 2 = some (.int .i64) := by kernel_rfl
theorem rdT31 (h : Rd Try.prog H f 31 cs) : ∃ (a0 : Int) (a1 : Int), cs = [.int .i64 a0, .int .i64 a1] ∧ (IntKind.min .i64 ≤ a0 ∧ a0 ≤ IntKind.max .i64) ∧ (IntKind.min .i64 ≤ a1 ∧ a1 ≤ IntKind.max .i64) := by
  obtain ⟨g, hl, hp⟩ := rd_struct h (k := 2) (fs := [(2, 0), (2, 1)]) (by kernel_rfl) (by kernel_rfl) (by kernel_rfl)
  obtain ⟨v0, r0, rfl, w0⟩ := cons_of hl
  obtain ⟨v1, r1, rfl, w1⟩ := cons_of w0
  obtain rfl := List.eq_nil_of_length_eq_zero w1
  obtain ⟨h0, h1, _⟩ := hp
  have z2 : Try.prog.cellsOf 2 = 1 := by kernel_rfl
  simp only [z2, List.drop_zero, List.drop_succ_cons, List.take_succ_cons, List.take_zero] at h0 h1
  obtain ⟨b0, e0, l0, u0⟩ := rd_int h0 und2
  cases e0
  obtain ⟨b1, e1, l1, u1⟩ := rd_int h1 und2
  cases e1
  exact ⟨b0, b1, rfl, ⟨l0, u0⟩, ⟨l1, u1⟩⟩
end
theorem un40 : Try.prog.underlying 40 = some (.slice 31) := by kernel_rfl
theorem walk_FnWalk (H : Heap) {f0 f1 : Nat} {a : Option Addr} {n c : Nat} {t : Int} (h0 : Rd Try.prog H f0 40 [.slice a n c]) (h1 : Rd Try.prog H f1 2 [.int .i64 t]) : CallsH Try.prog 6 #[.slice a n c, .int .i64 t] H (Gives (.bool true) H) := by
  obtain ⟨p, n', c', l, e, hn, _, _, hR, _⟩ := rd_slice (fl := rvC) (z := 2) (good := fun _ => True) h0 un40 (by kernel_rfl) (by
    intro g es h
    obtain ⟨a0, a1, rfl, _⟩ := rdT31 h
    exact ⟨(a0, a1), rfl, trivial⟩)
  cases e
  exact fnWalk_ok hn.symm hR
set_option maxRecDepth 100000 in
theorem lifted_FnWalk (os : Os) (started : os.Started) (K : Type) (enc : TypeId × Value → K) :
    ReturnsInHanded {} Try.checked os 6 .any (Rows.fnWalkSpec.pre6 enc Try.prog Try.f6 Rows.fnWalkRow.domain false) (Rows.fnWalkSpec.post enc Try.prog Try.f6 false true false false) := by
  refine returnsInHanded_of_change (C := Try.checked) own9 started (by kernel_rfl) Try.func6
    (ChangeSpec.witness6 (enc := enc) (C := Try.checked) false ⟨#[], #[.slice none 0 0, .int .i64 0], []⟩ 8 (by kernel_rfl) (by kernel_rfl) (by kernel_rfl) (by kernel_rfl)) ?_
  intro W base args ds gs before hval0 hW hcnd _
  have hval : ∀ (j : Nat) t v, Try.f6.params[j]? = some t → args[j]? = some v → Value.okWide Try.prog W .any base t v := hval0
  have hW' := hW
  obtain ⟨p, q, hA0, hV, rfl, hfz, hnd⟩ := hW
  have hA : DataW.TrodAll enc Try.prog W 0 (fun _ => true) true Try.f6.params.toList args.toList ds p := hA0
  rw [Try.params6] at hA hval
  obtain ⟨v0, vs0, d0, ds0, p0, q0, hargs, rfl, rfl, h0, r0⟩ := trodAll_cons hA
  obtain ⟨v1, vs1, d1, ds1, p1, q1, rfl, rfl, rfl, h1, r1⟩ := trodAll_cons r0
  obtain ⟨rfl, rfl, rfl⟩ := trodAll_nil r1
  obtain rfl : args = #[v0, v1] := by cases args; simp_all
  obtain ⟨rfl, rfl⟩ := trodVars_none hV
  obtain ⟨a0, l0, m0, rfl⟩ := okWide_slice Try.underlying40 (hval 0 40 v0 rfl rfl)
  obtain ⟨c1, rfl⟩ := okWide_int Try.underlying2 (hval 1 2 v1 rfl rfl)
  have k0 := h0
  have lt0 : ∀ x ∈ p0, x.block < W.heap.size := by obtain ⟨m, hm⟩ := k0; exact DataW.trod_lt m _ _ _ hm
  obtain ⟨fu0, hf0⟩ := h0
  have rd0 := rd_of_trod hf0
  have k1 := h1
  have lt1 : ∀ x ∈ p1, x.block < W.heap.size := by obtain ⟨m, hm⟩ := k1; exact DataW.trod_lt m _ _ _ hm
  obtain ⟨fu1, hf1⟩ := h1
  have rd1 := rd_of_trod hf1
  clear hA0 hval0
  refine ((walk_FnWalk W.heap rd0 rd1) W rfl).mono fun e W' ⟨sm, he, ex⟩ => ?_
  subst he
  have bel : Below W.heap.size W W' := ⟨sm.os, sm.tape, sm.output, ex.size, fun b hb => ex.block b hb⟩
  exact ⟨_, rfl, _, _, _, [], _, [], hW', trodAll_mk1 (shut_bool Try.underlying4 _), (trodAll_cons_mk (Below.trod laid9 (by kernel_rfl) (of_decide_eq_true (by kernel_rfl)) k0 bel lt0) (trodAll_cons_mk (Below.trod laid9 (by kernel_rfl) (of_decide_eq_true (by kernel_rfl)) k1 bel lt1) trodAll_mk0)), rfl, bel.frame _, fun h => by cases h⟩
theorem over_FnWalk : Rows.fnWalkRow.holds Try.pinned (OpenSpec.ofChange Rows.fnWalkSpec) :=
  OpenClaim.holds_of_wide 6 Try.f6 rfl rfl rfl rfl rfl rfl rfl ⟨rfl, rfl, rfl, rfl, rfl⟩ rfl rfl rfl rfl rfl (by kernel_rfl) Try.func6 (by kernel_rfl)
    (of_decide_eq_true (by kernel_rfl)) (by unfold Func.isWrapper; first | (rw [if_pos (by decide +kernel)]; kernel_rfl) | (rw [if_neg (by decide +kernel)]; exact ⟨rfl, rfl⟩))
    (fun os started K enc _ => lifted_FnWalk os started K enc)
/-- The given statement. -/
theorem proved_FnWalk : Rows.FnWalkSaid := over_FnWalk
end Go.Proofs.Ytpjnmdeeoafclaa
