/- The law FnHasherCounts is proved: for every input it returns true, and what came in reads as it did. No condition. -/
import Derived.Test.YtpankppliidaoaaT46
import Derived.Test.YtpankppliidaoaaDenE
import Derived.Test.YtpankppliidaoaaRows
import Derived.WalkKit
import Derived.ProofKit
import Derived.OpenShut
import Derived.ShutString
import Derived.ChangeOld
import Derived.Below
set_option linter.unusedVariables false
namespace Go.Proofs.Ytpankppliidaoaa
open Go Go.Den Go.Proofs
open Go.ChangeShapes Go.WideShapes Go.ChangeAt Go.RowKit
open Go.ChangeMaps (open_string shut_string)
theorem own46 : ownKnob Try.prog.godebug = none := by kernel_rfl
theorem laid46 : laidOutB Try.prog = true := by kernel_rfl
section
variable {H : Heap} {f : Nat} {cs : List Value}
theorem und2 : Try.prog.underlying 2 = some (.int .i64) := by kernel_rfl
theorem rdT35 (h : Rd Try.prog H f 35 cs) : ∃ (a0 : Int) (a1 : Int), cs = [.int .i64 a0, .int .i64 a1] ∧ (IntKind.min .i64 ≤ a0 ∧ a0 ≤ IntKind.max .i64) ∧ (IntKind.min .i64 ≤ a1 ∧ a1 ≤ IntKind.max .i64) := by
  obtain ⟨g, hl, hp⟩ := rd_struct h (k := 2) (fs := [(2, 0), (2, 1)]) (by kernel_rfl) (by kernel_rfl) (by kernel_rfl)
  obtain ⟨v0, r0, rfl, w0⟩ := cons_of hl
  obtain ⟨v1, r1, rfl, w1⟩ := cons_of w0
  obtain rfl := List.eq_nil_of_length_eq_zero w1
  obtain ⟨h0, h1, _⟩ := hp
  have z2 : Try.prog.cellsOf 2 = 1 := by kernel_rfl
  simp only [z2, List.drop_zero, List.drop_succ_cons, List.take_succ_cons, List.take_zero] at h0 h1
  obtain ⟨b0, e0, l0, u0⟩ := rd_int h0 und2
  cases e0
  obtain ⟨b1, e1, l1, u1⟩ := rd_int h1 und2
  cases e1
  exact ⟨b0, b1, rfl, ⟨l0, u0⟩, ⟨l1, u1⟩⟩
theorem und4 : Try.prog.underlying 4 = some .bool := by kernel_rfl
theorem und9 : Try.prog.underlying 9 = some .string := by kernel_rfl
theorem rdT32 (h : Rd Try.prog H f 32 cs) : ∃ (a0 : ByteArray) (a1 : ByteArray) (a2 : Int) (a3 : Int) (a4 : Int) (a5 : Int), cs = [.string a0, .string a1, .int .i64 a2, .int .i64 a3, .int .i64 a4, .int .i64 a5] ∧ (a0.size ≤ maxLen) ∧ (a1.size ≤ maxLen) ∧ (IntKind.min .i64 ≤ a2 ∧ a2 ≤ IntKind.max .i64) ∧ (IntKind.min .i64 ≤ a3 ∧ a3 ≤ IntKind.max .i64) ∧ (IntKind.min .i64 ≤ a4 ∧ a4 ≤ IntKind.max .i64) ∧ (IntKind.min .i64 ≤ a5 ∧ a5 ≤ IntKind.max .i64) := by
  obtain ⟨g, hl, hp⟩ := rd_struct h (k := 6) (fs := [(9, 0), (9, 1), (2, 2), (2, 3), (2, 4), (2, 5)]) (by kernel_rfl) (by kernel_rfl) (by kernel_rfl)
  obtain ⟨v0, r0, rfl, w0⟩ := cons_of hl
  obtain ⟨v1, r1, rfl, w1⟩ := cons_of w0
  obtain ⟨v2, r2, rfl, w2⟩ := cons_of w1
  obtain ⟨v3, r3, rfl, w3⟩ := cons_of w2
  obtain ⟨v4, r4, rfl, w4⟩ := cons_of w3
  obtain ⟨v5, r5, rfl, w5⟩ := cons_of w4
  obtain rfl := List.eq_nil_of_length_eq_zero w5
  obtain ⟨h0, h1, h2, h3, h4, h5, _⟩ := hp
  have z2 : Try.prog.cellsOf 2 = 1 := by kernel_rfl
  have z9 : Try.prog.cellsOf 9 = 1 := by kernel_rfl
  simp only [z2, z9, List.drop_zero, List.drop_succ_cons, List.take_succ_cons, List.take_zero] at h0 h1 h2 h3 h4 h5
  obtain ⟨b0, e0, l0⟩ := rd_str h0 und9
  cases e0
  obtain ⟨b1, e1, l1⟩ := rd_str h1 und9
  cases e1
  obtain ⟨b2, e2, l2, u2⟩ := rd_int h2 und2
  cases e2
  obtain ⟨b3, e3, l3, u3⟩ := rd_int h3 und2
  cases e3
  obtain ⟨b4, e4, l4, u4⟩ := rd_int h4 und2
  cases e4
  obtain ⟨b5, e5, l5, u5⟩ := rd_int h5 und2
  cases e5
  exact ⟨b0, b1, b2, b3, b4, b5, rfl, l0, l1, ⟨l2, u2⟩, ⟨l3, u3⟩, ⟨l4, u4⟩, ⟨l5, u5⟩⟩
theorem rdT61 (h : Rd Try.prog H f 61 cs) : ∃ (a0 : Int) (a1 : Int) (a2 : Bool) (a3 : ByteArray) (a4 : ByteArray) (a5 : Int) (a6 : Int) (a7 : Int) (a8 : Int), cs = [.int .i64 a0, .int .i64 a1, .bool a2, .string a3, .string a4, .int .i64 a5, .int .i64 a6, .int .i64 a7, .int .i64 a8] ∧ (IntKind.min .i64 ≤ a0 ∧ a0 ≤ IntKind.max .i64) ∧ (IntKind.min .i64 ≤ a1 ∧ a1 ≤ IntKind.max .i64) ∧ (True) ∧ (a3.size ≤ maxLen) ∧ (a4.size ≤ maxLen) ∧ (IntKind.min .i64 ≤ a5 ∧ a5 ≤ IntKind.max .i64) ∧ (IntKind.min .i64 ≤ a6 ∧ a6 ≤ IntKind.max .i64) ∧ (IntKind.min .i64 ≤ a7 ∧ a7 ≤ IntKind.max .i64) ∧ (IntKind.min .i64 ≤ a8 ∧ a8 ≤ IntKind.max .i64) := by
  obtain ⟨g, hl, hp⟩ := rd_struct h (k := 9) (fs := [(35, 0), (4, 2), (32, 3)]) (by kernel_rfl) (by kernel_rfl) (by kernel_rfl)
  obtain ⟨v0, r0, rfl, w0⟩ := cons_of hl
  obtain ⟨v1, r1, rfl, w1⟩ := cons_of w0
  obtain ⟨v2, r2, rfl, w2⟩ := cons_of w1
  obtain ⟨v3, r3, rfl, w3⟩ := cons_of w2
  obtain ⟨v4, r4, rfl, w4⟩ := cons_of w3
  obtain ⟨v5, r5, rfl, w5⟩ := cons_of w4
  obtain ⟨v6, r6, rfl, w6⟩ := cons_of w5
  obtain ⟨v7, r7, rfl, w7⟩ := cons_of w6
  obtain ⟨v8, r8, rfl, w8⟩ := cons_of w7
  obtain rfl := List.eq_nil_of_length_eq_zero w8
  obtain ⟨h0, h1, h2, _⟩ := hp
  have z4 : Try.prog.cellsOf 4 = 1 := by kernel_rfl
  have z32 : Try.prog.cellsOf 32 = 6 := by kernel_rfl
  have z35 : Try.prog.cellsOf 35 = 2 := by kernel_rfl
  simp only [z4, z32, z35, List.drop_zero, List.drop_succ_cons, List.take_succ_cons, List.take_zero] at h0 h1 h2
  obtain ⟨b0, b1, e0, q0, q1⟩ := rdT35 h0
  cases e0
  obtain ⟨b2, e2⟩ := rd_bool h1 und4
  cases e2
  obtain ⟨b3, b4, b5, b6, b7, b8, e3, q3, q4, q5, q6, q7, q8⟩ := rdT32 h2
  cases e3
  exact ⟨b0, b1, b2, b3, b4, b5, b6, b7, b8, rfl, q0, q1, trivial, q3, q4, q5, q6, q7, q8⟩
end
theorem unK : Try.prog.underlying 56 = some (.slice 35) := by kernel_rfl
theorem unR : Try.prog.underlying 57 = some (.slice 61) := by kernel_rfl
theorem walk_FnHasherCounts (H : Heap) {f0 f1 f2 f3 : Nat} {s0 s1 : Int} {a : Option Addr} {n c : Nat} {a' : Option Addr} {n' c' : Nat} (h0 : Rd Try.prog H f0 2 [.int .i64 s0]) (h1 : Rd Try.prog H f1 2 [.int .i64 s1]) (h2 : Rd Try.prog H f2 56 [.slice a n c]) (h3 : Rd Try.prog H f3 57 [.slice a' n' c']) :
    CallsH Try.prog 8 #[.int .i64 s0, .int .i64 s1, .slice a n c, .slice a' n' c'] H (Gives (.bool true) H) := by
  obtain ⟨p, _, _, ks, e, hn, _, _, hR, _⟩ := rd_slice (fl := revCells) (z := 2) (good := fun _ => True) h2 unK (by kernel_rfl) (by
    intro g es h
    obtain ⟨a0, a1, rfl, _⟩ := rdT35 h
    exact ⟨(a0, a1), rfl, trivial⟩)
  cases e
  obtain ⟨p', _, _, l, e, hn', _, _, hR', hs⟩ := rd_slice (fl := RowR.cells) (z := 9) (good := smallRow) h3 unR (by kernel_rfl) (by
    intro g es h
    obtain ⟨a0, a1, a2, a3, a4, a5, a6, a7, a8, rfl, q0, q1, _⟩ := rdT61 h
    exact ⟨⟨(a0, a1), a2, ⟨a3, a4, a5, a6, a7, a8⟩⟩, rfl, by have := q0.2; simp [IntKind.max] at this; exact Int.lt_of_le_of_lt this (by decide), by have := q1.2; simp [IntKind.max] at this; exact Int.lt_of_le_of_lt this (by decide)⟩)
  cases e
  subst hn hn'
  have R0 : RowsC H a revCells 2 ks := ⟨hR⟩
  have R1 : RowsC H a' RowR.cells 9 l := ⟨hR'⟩
  exact law8 hs
set_option maxRecDepth 100000 in
theorem lifted_FnHasherCounts (os : Os) (started : os.Started) (K : Type) (enc : TypeId × Value → K) :
    ReturnsInHanded {} Try.checked os 8 .any (Rows.fnHasherCountsSpec.pre6 enc Try.prog Try.f8 Rows.fnHasherCountsRow.domain false) (Rows.fnHasherCountsSpec.post enc Try.prog Try.f8 false true false false) := by
  refine returnsInHanded_of_change (C := Try.checked) own46 started (by kernel_rfl) Try.func8
    (ChangeSpec.witness6 (enc := enc) (C := Try.checked) false ⟨#[], #[.int .i64 0, .int .i64 0, .slice none 0 0, .slice none 0 0], []⟩ 8 (by kernel_rfl) (by kernel_rfl) (by kernel_rfl) (by kernel_rfl)) ?_
  intro W base args ds gs before hval0 hW hcnd _
  have hval : ∀ (j : Nat) t v, Try.f8.params[j]? = some t → args[j]? = some v → Value.okWide Try.prog W .any base t v := hval0
  have hW' := hW
  obtain ⟨p, q, hA0, hV, rfl, hfz, hnd⟩ := hW
  have hA : DataW.TrodAll enc Try.prog W 0 (fun _ => true) true Try.f8.params.toList args.toList ds p := hA0
  rw [Try.params8] at hA hval
  obtain ⟨v0, vs0, d0, ds0, p0, q0, hargs, rfl, rfl, h0, r0⟩ := trodAll_cons hA
  obtain ⟨v1, vs1, d1, ds1, p1, q1, rfl, rfl, rfl, h1, r1⟩ := trodAll_cons r0
  obtain ⟨v2, vs2, d2, ds2, p2, q2, rfl, rfl, rfl, h2, r2⟩ := trodAll_cons r1
  obtain ⟨v3, vs3, d3, ds3, p3, q3, rfl, rfl, rfl, h3, r3⟩ := trodAll_cons r2
  obtain ⟨rfl, rfl, rfl⟩ := trodAll_nil r3
  obtain rfl : args = #[v0, v1, v2, v3] := by cases args; simp_all
  obtain ⟨rfl, rfl⟩ := trodVars_none hV
  obtain ⟨c0, rfl⟩ := okWide_int Try.underlying2 (hval 0 2 v0 rfl rfl)
  obtain ⟨c1, rfl⟩ := okWide_int Try.underlying2 (hval 1 2 v1 rfl rfl)
  obtain ⟨a2, l2, m2, rfl⟩ := okWide_slice Try.underlying56 (hval 2 56 v2 rfl rfl)
  obtain ⟨a3, l3, m3, rfl⟩ := okWide_slice Try.underlying57 (hval 3 57 v3 rfl rfl)
  have k0 := h0
  have lt0 : ∀ x ∈ p0, x.block < W.heap.size := by obtain ⟨m, hm⟩ := k0; exact DataW.trod_lt m _ _ _ hm
  obtain ⟨fu0, hf0⟩ := h0
  have rd0 := rd_of_trod hf0
  have k1 := h1
  have lt1 : ∀ x ∈ p1, x.block < W.heap.size := by obtain ⟨m, hm⟩ := k1; exact DataW.trod_lt m _ _ _ hm
  obtain ⟨fu1, hf1⟩ := h1
  have rd1 := rd_of_trod hf1
  have k2 := h2
  have lt2 : ∀ x ∈ p2, x.block < W.heap.size := by obtain ⟨m, hm⟩ := k2; exact DataW.trod_lt m _ _ _ hm
  obtain ⟨fu2, hf2⟩ := h2
  have rd2 := rd_of_trod hf2
  have k3 := h3
  have lt3 : ∀ x ∈ p3, x.block < W.heap.size := by obtain ⟨m, hm⟩ := k3; exact DataW.trod_lt m _ _ _ hm
  obtain ⟨fu3, hf3⟩ := h3
  have rd3 := rd_of_trod hf3
  clear hA0 hval0
  refine ((walk_FnHasherCounts W.heap rd0 rd1 rd2 rd3) W rfl).mono fun e W' ⟨sm, he, ex⟩ => ?_
  subst he
  have bel : Below W.heap.size W W' := ⟨sm.os, sm.tape, sm.output, ex.size, fun b hb => ex.block b hb⟩
  exact ⟨_, rfl, _, _, _, [], _, [], hW', trodAll_mk1 (shut_bool Try.underlying4 _), (trodAll_cons_mk (Below.trod laid46 (by kernel_rfl) (of_decide_eq_true (by kernel_rfl)) k0 bel lt0) (trodAll_cons_mk (Below.trod laid46 (by kernel_rfl) (of_decide_eq_true (by kernel_rfl)) k1 bel lt1) (trodAll_cons_mk (Below.trod laid46 (by kernel_rfl) (of_decide_eq_true (by kernel_rfl)) k2 bel lt2) (trodAll_cons_mk (Below.trod laid46 (by kernel_rfl) (of_decide_eq_true (by kernel_rfl)) k3 bel lt3) trodAll_mk0)))), rfl, bel.frame _, fun h => by cases h⟩
theorem over_FnHasherCounts : Rows.fnHasherCountsRow.holds Try.pinned (OpenSpec.ofChange Rows.fnHasherCountsSpec) :=
  OpenClaim.holds_of_wide 8 Try.f8 rfl rfl rfl rfl rfl rfl rfl ⟨rfl, rfl, rfl, rfl, rfl⟩ rfl rfl rfl rfl rfl (by kernel_rfl) Try.func8 (by kernel_rfl)
    (of_decide_eq_true (by kernel_rfl)) (by unfold Func.isWrapper; first | (rw [if_pos (by decide +kernel)]; kernel_rfl) | (rw [if_neg (by decide +kernel)]; exact ⟨rfl, rfl⟩))
    (fun os started K enc _ => lifted_FnHasherCounts os started K enc)
/-- The given statement. -/
theorem proved_FnHasherCounts : Rows.FnHasherCountsSaid := over_FnHasherCounts
end Go.Proofs.Ytpankppliidaoaa
