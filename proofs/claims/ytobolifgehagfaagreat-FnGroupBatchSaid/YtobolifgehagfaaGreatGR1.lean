/- The law FnGroupBatch is proved: for every input it returns true, and what came in reads as it did. No condition. -/
import Derived.Test.YtobolifgehagfaaGreatQM9
import Derived.Test.YtobolifgehagfaaGreatDenZC
import Derived.Test.YtobolifgehagfaaGreatRows
import Derived.WalkKit
import Derived.ProofKit
import Derived.OpenShut
import Derived.ShutString
import Derived.ChangeOld
import Derived.Below
set_option linter.unusedVariables false
namespace Go.Proofs.YtobolifgehagfaaGreat
open Go Go.Den Go.Proofs
open Go.ChangeShapes Go.WideShapes Go.ChangeAt Go.RowKit
open Go.ChangeMaps (open_string shut_string)
theorem own9 : ownKnob Tryz.prog.godebug = none := by kernel_rfl
theorem laid9 : laidOutB Tryz.prog = true := by kernel_rfl
section
variable {H : Heap} {f : Nat} {cs : List Value}
theorem und2 : Tryz.prog.underlying 2 = some (.int .i64) := by kernel_rfl
theorem und9 : Tryz.prog.underlying 9 = some .string := by kernel_rfl
theorem und4 : Tryz.prog.underlying 4 = some .bool := by kernel_rfl
theorem rdT28 (h : Rd Tryz.prog H f 28 cs) : ∃ (a0 : Int) (a1 : ByteArray) (a2 : ByteArray) (a3 : Bool) (a4 : Int), cs = [.int .i64 a0, .string a1, .string a2, .bool a3, .int .i64 a4] ∧ (IntKind.min .i64 ≤ a0 ∧ a0 ≤ IntKind.max .i64) ∧ (a1.size ≤ maxLen) ∧ (a2.size ≤ maxLen) ∧ (True) ∧ (IntKind.min .i64 ≤ a4 ∧ a4 ≤ IntKind.max .i64) := by
  obtain ⟨g, hl, hp⟩ := rd_struct h (k := 5) (fs := [(2, 0), (9, 1), (9, 2), (4, 3), (2, 4)]) (by kernel_rfl) (by kernel_rfl) (by kernel_rfl)
  obtain ⟨v0, r0, rfl, w0⟩ := cons_of hl
  obtain ⟨v1, r1, rfl, w1⟩ := cons_of w0
  obtain ⟨v2, r2, rfl, w2⟩ := cons_of w1
  obtain ⟨v3, r3, rfl, w3⟩ := cons_of w2
  obtain ⟨v4, r4, rfl, w4⟩ := cons_of w3
  obtain rfl := List.eq_nil_of_length_eq_zero w4
  obtain ⟨h0, h1, h2, h3, h4, _⟩ := hp
  have z2 : Tryz.prog.cellsOf 2 = 1 := by kernel_rfl
  have z4 : Tryz.prog.cellsOf 4 = 1 := by kernel_rfl
  have z9 : Tryz.prog.cellsOf 9 = 1 := by kernel_rfl
  simp only [z2, z4, z9, List.drop_zero, List.drop_succ_cons, List.take_succ_cons, List.take_zero] at h0 h1 h2 h3 h4
  obtain ⟨b0, e0, l0, u0⟩ := rd_int h0 und2
  cases e0
  obtain ⟨b1, e1, l1⟩ := rd_str h1 und9
  cases e1
  obtain ⟨b2, e2, l2⟩ := rd_str h2 und9
  cases e2
  obtain ⟨b3, e3⟩ := rd_bool h3 und4
  cases e3
  obtain ⟨b4, e4, l4, u4⟩ := rd_int h4 und2
  cases e4
  exact ⟨b0, b1, b2, b3, b4, rfl, ⟨l0, u0⟩, l1, l2, trivial, ⟨l4, u4⟩⟩
theorem rdT34 (h : Rd Tryz.prog H f 34 cs) : ∃ (a0 : ByteArray) (a1 : ByteArray) (a2 : Int) (a3 : Int) (a4 : Int) (a5 : Int), cs = [.string a0, .string a1, .int .i64 a2, .int .i64 a3, .int .i64 a4, .int .i64 a5] ∧ (a0.size ≤ maxLen) ∧ (a1.size ≤ maxLen) ∧ (IntKind.min .i64 ≤ a2 ∧ a2 ≤ IntKind.max .i64) ∧ (IntKind.min .i64 ≤ a3 ∧ a3 ≤ IntKind.max .i64) ∧ (IntKind.min .i64 ≤ a4 ∧ a4 ≤ IntKind.max .i64) ∧ (IntKind.min .i64 ≤ a5 ∧ a5 ≤ IntKind.max .i64) := by
  obtain ⟨g, hl, hp⟩ := rd_struct h (k := 6) (fs := [(9, 0), (9, 1), (2, 2), (2, 3), (2, 4), (2, 5)]) (by kernel_rfl) (by kernel_rfl) (by kernel_rfl)
  obtain ⟨v0, r0, rfl, w0⟩ := cons_of hl
  obtain ⟨v1, r1, rfl, w1⟩ := cons_of w0
  obtain ⟨v2, r2, rfl, w2⟩ := cons_of w1
  obtain ⟨v3, r3, rfl, w3⟩ := cons_of w2
  obtain ⟨v4, r4, rfl, w4⟩ := cons_of w3
  obtain ⟨v5, r5, rfl, w5⟩ := cons_of w4
  obtain rfl := List.eq_nil_of_length_eq_zero w5
  obtain ⟨h0, h1, h2, h3, h4, h5, _⟩ := hp
  have z2 : Tryz.prog.cellsOf 2 = 1 := by kernel_rfl
  have z9 : Tryz.prog.cellsOf 9 = 1 := by kernel_rfl
  simp only [z2, z9, List.drop_zero, List.drop_succ_cons, List.take_succ_cons, List.take_zero] at h0 h1 h2 h3 h4 h5
  obtain ⟨b0, e0, l0⟩ := rd_str h0 und9
  cases e0
  obtain ⟨b1, e1, l1⟩ := rd_str h1 und9
  cases e1
  obtain ⟨b2, e2, l2, u2⟩ := rd_int h2 und2
  cases e2
  obtain ⟨b3, e3, l3, u3⟩ := rd_int h3 und2
  cases e3
  obtain ⟨b4, e4, l4, u4⟩ := rd_int h4 und2
  cases e4
  obtain ⟨b5, e5, l5, u5⟩ := rd_int h5 und2
  cases e5
  exact ⟨b0, b1, b2, b3, b4, b5, rfl, l0, l1, ⟨l2, u2⟩, ⟨l3, u3⟩, ⟨l4, u4⟩, ⟨l5, u5⟩⟩
theorem rdT36 (h : Rd Tryz.prog H f 36 cs) : ∃ (a0 : Bool) (a1 : ByteArray) (a2 : ByteArray) (a3 : Int) (a4 : Int) (a5 : Int) (a6 : Int), cs = [.bool a0, .string a1, .string a2, .int .i64 a3, .int .i64 a4, .int .i64 a5, .int .i64 a6] ∧ (True) ∧ (a1.size ≤ maxLen) ∧ (a2.size ≤ maxLen) ∧ (IntKind.min .i64 ≤ a3 ∧ a3 ≤ IntKind.max .i64) ∧ (IntKind.min .i64 ≤ a4 ∧ a4 ≤ IntKind.max .i64) ∧ (IntKind.min .i64 ≤ a5 ∧ a5 ≤ IntKind.max .i64) ∧ (IntKind.min .i64 ≤ a6 ∧ a6 ≤ IntKind.max .i64) := by
  obtain ⟨g, hl, hp⟩ := rd_struct h (k := 7) (fs := [(4, 0), (34, 1)]) (by kernel_rfl) (by kernel_rfl) (by kernel_rfl)
  obtain ⟨v0, r0, rfl, w0⟩ := cons_of hl
  obtain ⟨v1, r1, rfl, w1⟩ := cons_of w0
  obtain ⟨v2, r2, rfl, w2⟩ := cons_of w1
  obtain ⟨v3, r3, rfl, w3⟩ := cons_of w2
  obtain ⟨v4, r4, rfl, w4⟩ := cons_of w3
  obtain ⟨v5, r5, rfl, w5⟩ := cons_of w4
  obtain ⟨v6, r6, rfl, w6⟩ := cons_of w5
  obtain rfl := List.eq_nil_of_length_eq_zero w6
  obtain ⟨h0, h1, _⟩ := hp
  have z4 : Tryz.prog.cellsOf 4 = 1 := by kernel_rfl
  have z34 : Tryz.prog.cellsOf 34 = 6 := by kernel_rfl
  simp only [z4, z34, List.drop_zero, List.drop_succ_cons, List.take_succ_cons, List.take_zero] at h0 h1
  obtain ⟨b0, e0⟩ := rd_bool h0 und4
  cases e0
  obtain ⟨b1, b2, b3, b4, b5, b6, e1, q1, q2, q3, q4, q5, q6⟩ := rdT34 h1
  cases e1
  exact ⟨b0, b1, b2, b3, b4, b5, b6, rfl, trivial, q1, q2, q3, q4, q5, q6⟩
end
theorem un22 : Tryz.prog.underlying 22 = some (.slice 28) := by kernel_rfl
theorem un23 : Tryz.prog.underlying 23 = some (.slice 36) := by kernel_rfl
theorem walk_FnGroupBatch (H : Heap) {f0 f1 : Nat} {a : Option Addr} {n c : Nat} {a2 : Option Addr} {n2 c2 : Nat} (h0 : Rd Tryz.prog H f0 22 [.slice a n c]) (h1 : Rd Tryz.prog H f1 23 [.slice a2 n2 c2]) : CallsH Tryz.prog 3 #[.slice a n c, .slice a2 n2 c2] H (Gives (.bool true) H) := by
  obtain ⟨p, n', c', l, e, hn, hc, _, hR, _⟩ := rd_slice (fl := Wa.cells) (z := 5) (good := fun _ => True) h0 un22 (by kernel_rfl) (by
    intro g es h
    obtain ⟨a0, a1, a2, a3, a4, rfl, _⟩ := rdT28 h
    exact ⟨⟨a0, a1, a2, a3, a4⟩, rfl, trivial⟩)
  cases e
  obtain ⟨p2, n2', c2', l2, e2, hn2, hc2, _, hR2, _⟩ := rd_slice (fl := EV.cells) (z := 7) (good := fun _ => True) h1 un23 (by kernel_rfl) (by
    intro g es h
    obtain ⟨a0, a1, a2, a3, a4, a5, a6, rfl, _⟩ := rdT36 h
    exact ⟨⟨a0, a1, a2, a3, a4, a5, a6⟩, rfl, trivial⟩)
  cases e2
  exact groupBatch_ok hR hn.symm hR2 hn2.symm
set_option maxRecDepth 100000 in
theorem lifted_FnGroupBatch (os : Os) (started : os.Started) (K : Type) (enc : TypeId × Value → K) :
    ReturnsInHanded {} Tryz.checked os 3 .any (Rows.fnGroupBatchSpec.pre6 enc Tryz.prog Tryz.f3 Rows.fnGroupBatchRow.domain false) (Rows.fnGroupBatchSpec.post enc Tryz.prog Tryz.f3 false true false false) := by
  refine returnsInHanded_of_change (C := Tryz.checked) own9 started (by kernel_rfl) Tryz.func3
    (ChangeSpec.witness6 (enc := enc) (C := Tryz.checked) false ⟨#[], #[.slice none 0 0, .slice none 0 0], []⟩ 8 (by kernel_rfl) (by kernel_rfl) (by kernel_rfl) (by kernel_rfl)) ?_
  intro W base args ds gs before hval0 hW hcnd _
  have hval : ∀ (j : Nat) t v, Tryz.f3.params[j]? = some t → args[j]? = some v → Value.okWide Tryz.prog W .any base t v := hval0
  have hW' := hW
  obtain ⟨p, q, hA0, hV, rfl, hfz, hnd⟩ := hW
  have hA : DataW.TrodAll enc Tryz.prog W 0 (fun _ => true) true Tryz.f3.params.toList args.toList ds p := hA0
  rw [Tryz.params3] at hA hval
  obtain ⟨v0, vs0, d0, ds0, p0, q0, hargs, rfl, rfl, h0, r0⟩ := trodAll_cons hA
  obtain ⟨v1, vs1, d1, ds1, p1, q1, rfl, rfl, rfl, h1, r1⟩ := trodAll_cons r0
  obtain ⟨rfl, rfl, rfl⟩ := trodAll_nil r1
  obtain rfl : args = #[v0, v1] := by cases args; simp_all
  obtain ⟨rfl, rfl⟩ := trodVars_none hV
  obtain ⟨a0, l0, m0, rfl⟩ := okWide_slice Tryz.underlying22 (hval 0 22 v0 rfl rfl)
  obtain ⟨a1, l1, m1, rfl⟩ := okWide_slice Tryz.underlying23 (hval 1 23 v1 rfl rfl)
  have k0 := h0
  have lt0 : ∀ x ∈ p0, x.block < W.heap.size := by obtain ⟨m, hm⟩ := k0; exact DataW.trod_lt m _ _ _ hm
  obtain ⟨fu0, hf0⟩ := h0
  have rd0 := rd_of_trod hf0
  have k1 := h1
  have lt1 : ∀ x ∈ p1, x.block < W.heap.size := by obtain ⟨m, hm⟩ := k1; exact DataW.trod_lt m _ _ _ hm
  obtain ⟨fu1, hf1⟩ := h1
  have rd1 := rd_of_trod hf1
  clear hA0 hval0
  refine ((walk_FnGroupBatch W.heap rd0 rd1) W rfl).mono fun e W' ⟨sm, he, ex⟩ => ?_
  subst he
  have bel : Below W.heap.size W W' := ⟨sm.os, sm.tape, sm.output, ex.size, fun b hb => ex.block b hb⟩
  exact ⟨_, rfl, _, _, _, [], _, [], hW', trodAll_mk1 (shut_bool Tryz.underlying4 _), (trodAll_cons_mk (Below.trod laid9 (by kernel_rfl) (of_decide_eq_true (by kernel_rfl)) k0 bel lt0) (trodAll_cons_mk (Below.trod laid9 (by kernel_rfl) (of_decide_eq_true (by kernel_rfl)) k1 bel lt1) trodAll_mk0)), rfl, bel.frame _, fun h => by cases h⟩
theorem over_FnGroupBatch : Rows.fnGroupBatchRow.holds Tryz.pinned (OpenSpec.ofChange Rows.fnGroupBatchSpec) :=
  OpenClaim.holds_of_wide 3 Tryz.f3 rfl rfl rfl rfl rfl rfl rfl ⟨rfl, rfl, rfl, rfl, rfl⟩ rfl rfl rfl rfl rfl (by kernel_rfl) Tryz.func3 (by kernel_rfl)
    (of_decide_eq_true (by kernel_rfl)) (by unfold Func.isWrapper; first | (rw [if_pos (by decide +kernel)]; kernel_rfl) | (rw [if_neg (by decide +kernel)]; exact ⟨rfl, rfl⟩))
    (fun os started K enc _ => lifted_FnGroupBatch os started K enc)
/-- The given statement. -/
theorem proved_FnGroupBatch : Rows.FnGroupBatchSaid := over_FnGroupBatch
end Go.Proofs.YtobolifgehagfaaGreat
