/- The law FnBackendLimits is proved: for every input it returns true, and what came in reads as it did. No condition. -/
import Derived.Test.YtkkookljlencgaaGreatHM7
import Derived.Test.YtkkookljlencgaaGreatDenZC
import Derived.Test.YtkkookljlencgaaGreatRows
import Derived.WalkKit
import Derived.ProofKit
import Derived.OpenShut
import Derived.ShutString
import Derived.ChangeOld
import Derived.Below
set_option linter.unusedVariables false
namespace Go.Proofs.YtkkookljlencgaaGreat
open Go Go.Den Go.Proofs
open Go.ChangeShapes Go.WideShapes Go.ChangeAt Go.RowKit
open Go.ChangeMaps (open_string shut_string)
theorem own9 : ownKnob Tryz.prog.godebug = none := by kernel_rfl
theorem laid9 : laidOutB Tryz.prog = true := by kernel_rfl
section
variable {H : Heap} {f : Nat} {cs : List Value}
theorem und9 : Tryz.prog.underlying 9 = some .string := by kernel_rfl
theorem und2 : Tryz.prog.underlying 2 = some (.int .i64) := by kernel_rfl
theorem rdT31 (h : Rd Tryz.prog H f 31 cs) : ∃ (a0 : ByteArray) (a1 : ByteArray) (a2 : Int) (a3 : Int) (a4 : Int) (a5 : Int), cs = [.string a0, .string a1, .int .i64 a2, .int .i64 a3, .int .i64 a4, .int .i64 a5] ∧ (a0.size ≤ maxLen) ∧ (a1.size ≤ maxLen) ∧ (IntKind.min .i64 ≤ a2 ∧ a2 ≤ IntKind.max .i64) ∧ (IntKind.min .i64 ≤ a3 ∧ a3 ≤ IntKind.max .i64) ∧ (IntKind.min .i64 ≤ a4 ∧ a4 ≤ IntKind.max .i64) ∧ (IntKind.min .i64 ≤ a5 ∧ a5 ≤ IntKind.max .i64) := by
  obtain ⟨g, hl, hp⟩ := rd_struct h (k := 6) (fs := [(9, 0), (9, 1), (2, 2), (2, 3), (2, 4), (2, 5)]) (by kernel_rfl) (by kernel_rfl) (by kernel_rfl)
  obtain ⟨v0, r0, rfl, w0⟩ := cons_of hl
  obtain ⟨v1, r1, rfl, w1⟩ := cons_of w0
  obtain ⟨v2, r2, rfl, w2⟩ := cons_of w1
  obtain ⟨v3, r3, rfl, w3⟩ := cons_of w2
  obtain ⟨v4, r4, rfl, w4⟩ := cons_of w3
  obtain ⟨v5, r5, rfl, w5⟩ := cons_of w4
  obtain rfl := List.eq_nil_of_length_eq_zero w5
  obtain ⟨h0, h1, h2, h3, h4, h5, _⟩ := hp
  have z2 : Tryz.prog.cellsOf 2 = 1 := by kernel_rfl
  have z9 : Tryz.prog.cellsOf 9 = 1 := by kernel_rfl
  simp only [z2, z9, List.drop_zero, List.drop_succ_cons, List.take_succ_cons, List.take_zero] at h0 h1 h2 h3 h4 h5
  obtain ⟨b0, e0, l0⟩ := rd_str h0 und9
  cases e0
  obtain ⟨b1, e1, l1⟩ := rd_str h1 und9
  cases e1
  obtain ⟨b2, e2, l2, u2⟩ := rd_int h2 und2
  cases e2
  obtain ⟨b3, e3, l3, u3⟩ := rd_int h3 und2
  cases e3
  obtain ⟨b4, e4, l4, u4⟩ := rd_int h4 und2
  cases e4
  obtain ⟨b5, e5, l5, u5⟩ := rd_int h5 und2
  cases e5
  exact ⟨b0, b1, b2, b3, b4, b5, rfl, l0, l1, ⟨l2, u2⟩, ⟨l3, u3⟩, ⟨l4, u4⟩, ⟨l5, u5⟩⟩
end
theorem un22 : Tryz.prog.underlying 22 = some (.slice 31) := by kernel_rfl
theorem walk_FnBackendLimits (H : Heap) {f0 f1 f2 : Nat} {a : Option Addr} {n c : Nat} {k m : Int} (h0 : Rd Tryz.prog H f0 22 [.slice a n c]) (h1 : Rd Tryz.prog H f1 3 [.int .i64 k]) (h2 : Rd Tryz.prog H f2 2 [.int .i64 m]) : CallsH Tryz.prog 3 #[.slice a n c, .int .i64 k, .int .i64 m] H (Gives (.bool true) H) := by
  obtain ⟨p, n', c', l, e, hn, hc, _, hR, _⟩ := rd_slice (fl := KVr.cells) (z := 6) (good := fun _ => True) h0 un22 (by kernel_rfl) (by
    intro g es h
    obtain ⟨a0, a1, a2, a3, a4, a5, rfl, _⟩ := rdT31 h
    exact ⟨⟨a0, a1, a2, a3, a4, a5⟩, rfl, trivial⟩)
  cases e
  obtain ⟨m', e2, hm1, hm2⟩ := rd_int h2 und2
  cases e2
  refine law_ok hR hn.symm ⟨hm1, ?_⟩
  have : m ≤ 9223372036854775807 := hm2
  omega
set_option maxRecDepth 100000 in
theorem lifted_FnBackendLimits (os : Os) (started : os.Started) (K : Type) (enc : TypeId × Value → K) :
    ReturnsInHanded {} Tryz.checked os 3 .any (Rows.fnBackendLimitsSpec.pre6 enc Tryz.prog Tryz.f3 Rows.fnBackendLimitsRow.domain false) (Rows.fnBackendLimitsSpec.post enc Tryz.prog Tryz.f3 false true false false) := by
  refine returnsInHanded_of_change (C := Tryz.checked) own9 started (by kernel_rfl) Tryz.func3
    (ChangeSpec.witness6 (enc := enc) (C := Tryz.checked) false ⟨#[], #[.slice none 0 0, .int .i64 0, .int .i64 0], []⟩ 8 (by kernel_rfl) (by kernel_rfl) (by kernel_rfl) (by kernel_rfl)) ?_
  intro W base args ds gs before hval0 hW hcnd _
  have hval : ∀ (j : Nat) t v, Tryz.f3.params[j]? = some t → args[j]? = some v → Value.okWide Tryz.prog W .any base t v := hval0
  have hW' := hW
  obtain ⟨p, q, hA0, hV, rfl, hfz, hnd⟩ := hW
  have hA : DataW.TrodAll enc Tryz.prog W 0 (fun _ => true) true Tryz.f3.params.toList args.toList ds p := hA0
  rw [Tryz.params3] at hA hval
  obtain ⟨v0, vs0, d0, ds0, p0, q0, hargs, rfl, rfl, h0, r0⟩ := trodAll_cons hA
  obtain ⟨v1, vs1, d1, ds1, p1, q1, rfl, rfl, rfl, h1, r1⟩ := trodAll_cons r0
  obtain ⟨v2, vs2, d2, ds2, p2, q2, rfl, rfl, rfl, h2, r2⟩ := trodAll_cons r1
  obtain ⟨rfl, rfl, rfl⟩ := trodAll_nil r2
  obtain rfl : args = #[v0, v1, v2] := by cases args; simp_all
  obtain ⟨rfl, rfl⟩ := trodVars_none hV
  obtain ⟨a0, l0, m0, rfl⟩ := okWide_slice Tryz.underlying22 (hval 0 22 v0 rfl rfl)
  obtain ⟨c1, rfl⟩ := okWide_int Tryz.underlying3 (hval 1 3 v1 rfl rfl)
  obtain ⟨c2, rfl⟩ := okWide_int Tryz.underlying2 (hval 2 2 v2 rfl rfl)
  have k0 := h0
  have lt0 : ∀ x ∈ p0, x.block < W.heap.size := by obtain ⟨m, hm⟩ := k0; exact DataW.trod_lt m _ _ _ hm
  obtain ⟨fu0, hf0⟩ := h0
  have rd0 := rd_of_trod hf0
  have k1 := h1
  have lt1 : ∀ x ∈ p1, x.block < W.heap.size := by obtain ⟨m, hm⟩ := k1; exact DataW.trod_lt m _ _ _ hm
  obtain ⟨fu1, hf1⟩ := h1
  have rd1 := rd_of_trod hf1
  have k2 := h2
  have lt2 : ∀ x ∈ p2, x.block < W.heap.size := by obtain ⟨m, hm⟩ := k2; exact DataW.trod_lt m _ _ _ hm
  obtain ⟨fu2, hf2⟩ := h2
  have rd2 := rd_of_trod hf2
  clear hA0 hval0
  refine ((walk_FnBackendLimits W.heap rd0 rd1 rd2) W rfl).mono fun e W' ⟨sm, he, ex⟩ => ?_
  subst he
  have bel : Below W.heap.size W W' := ⟨sm.os, sm.tape, sm.output, ex.size, fun b hb => ex.block b hb⟩
  exact ⟨_, rfl, _, _, _, [], _, [], hW', trodAll_mk1 (shut_bool Tryz.underlying4 _), (trodAll_cons_mk (Below.trod laid9 (by kernel_rfl) (of_decide_eq_true (by kernel_rfl)) k0 bel lt0) (trodAll_cons_mk (Below.trod laid9 (by kernel_rfl) (of_decide_eq_true (by kernel_rfl)) k1 bel lt1) (trodAll_cons_mk (Below.trod laid9 (by kernel_rfl) (of_decide_eq_true (by kernel_rfl)) k2 bel lt2) trodAll_mk0))), rfl, bel.frame _, fun h => by cases h⟩
theorem over_FnBackendLimits : Rows.fnBackendLimitsRow.holds Tryz.pinned (OpenSpec.ofChange Rows.fnBackendLimitsSpec) :=
  OpenClaim.holds_of_wide 3 Tryz.f3 rfl rfl rfl rfl rfl rfl rfl ⟨rfl, rfl, rfl, rfl, rfl⟩ rfl rfl rfl rfl rfl (by kernel_rfl) Tryz.func3 (by kernel_rfl)
    (of_decide_eq_true (by kernel_rfl)) (by unfold Func.isWrapper; first | (rw [if_pos (by decide +kernel)]; kernel_rfl) | (rw [if_neg (by decide +kernel)]; exact ⟨rfl, rfl⟩))
    (fun os started K enc _ => lifted_FnBackendLimits os started K enc)
/-- The given statement. -/
theorem proved_FnBackendLimits : Rows.FnBackendLimitsSaid := over_FnBackendLimits

end Go.Proofs.YtkkookljlencgaaGreat
