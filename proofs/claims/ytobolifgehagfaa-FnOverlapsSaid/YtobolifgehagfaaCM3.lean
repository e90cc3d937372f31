/- The law FnOverlaps is proved: for every input it returns true, and what came in reads as it did. No condition. -/
import Derived.Test.YtobolifgehagfaaCM2
import Derived.Test.YtobolifgehagfaaDenZB
import Derived.SizedLaws
import Derived.Test.YtobolifgehagfaaDenZB
import Derived.Test.YtobolifgehagfaaRows
import Derived.WalkKit
import Derived.ProofKit
import Derived.OpenShut
import Derived.ShutString
import Derived.ChangeOld
import Derived.Below
set_option linter.unusedVariables false
namespace Go.Proofs.Ytobolifgehagfaa
open Go Go.Den Go.Proofs
open Go.ChangeShapes Go.WideShapes Go.ChangeAt Go.RowKit
open Go.ChangeMaps (open_string shut_string)
theorem own9 : ownKnob Try.prog.godebug = none := by kernel_rfl
theorem laid9 : laidOutB Try.prog = true := by kernel_rfl
def Bd : Nat := 140737488351232
section
variable {H : Heap} {f : Nat} {cs : List Value}
theorem und3 : Try.prog.underlying 3 = some (.int .i64) := by kernel_rfl
theorem und9 : Try.prog.underlying 9 = some .string := by kernel_rfl
theorem und2 : Try.prog.underlying 2 = some (.int .i64) := by kernel_rfl
theorem und4 : Try.prog.underlying 4 = some .bool := by kernel_rfl
theorem rdT222 {f2 : Nat} (hf2 : f2 = f + 1) (h : RdS Try.prog H Bd f2 222 cs) : ∃ (a0 : Int) (a1 : Int) (a2 : ByteArray) (a3 : ByteArray) (a4 : Int) (a5 : ByteArray) (a6 : Bool), cs = [.int .i64 a0, .int .i64 a1, .string a2, .string a3, .int .i64 a4, .string a5, .bool a6] ∧ (IntKind.min .i64 ≤ a0 ∧ a0 ≤ IntKind.max .i64) ∧ (IntKind.min .i64 ≤ a1 ∧ a1 ≤ IntKind.max .i64) ∧ (a2.size ≤ Bd) ∧ (a3.size ≤ Bd) ∧ (IntKind.min .i64 ≤ a4 ∧ a4 ≤ IntKind.max .i64) ∧ (a5.size ≤ Bd) ∧ (True) := by
  obtain ⟨hl, hp⟩ := rdS_struct1 hf2 h (k := 7) (fs := [(3, 0), (3, 1), (9, 2), (9, 3), (2, 4), (9, 5), (4, 6)]) (by kernel_rfl) (by kernel_rfl) (by kernel_rfl)
  obtain ⟨v0, r0, rfl, w0⟩ := cons_of hl
  obtain ⟨v1, r1, rfl, w1⟩ := cons_of w0
  obtain ⟨v2, r2, rfl, w2⟩ := cons_of w1
  obtain ⟨v3, r3, rfl, w3⟩ := cons_of w2
  obtain ⟨v4, r4, rfl, w4⟩ := cons_of w3
  obtain ⟨v5, r5, rfl, w5⟩ := cons_of w4
  obtain ⟨v6, r6, rfl, w6⟩ := cons_of w5
  obtain rfl := List.eq_nil_of_length_eq_zero w6
  obtain ⟨h0, h1, h2, h3, h4, h5, h6, _⟩ := hp
  have z2 : Try.prog.cellsOf 2 = 1 := by kernel_rfl
  have z3 : Try.prog.cellsOf 3 = 1 := by kernel_rfl
  have z4 : Try.prog.cellsOf 4 = 1 := by kernel_rfl
  have z9 : Try.prog.cellsOf 9 = 1 := by kernel_rfl
  simp only [z2, z3, z4, z9, List.drop_zero, List.drop_succ_cons, List.take_succ_cons, List.take_zero] at h0 h1 h2 h3 h4 h5 h6
  obtain ⟨b0, e0, l0, u0⟩ := rdS_int h0 und3
  cases e0
  obtain ⟨b1, e1, l1, u1⟩ := rdS_int h1 und3
  cases e1
  obtain ⟨b2, e2, l2⟩ := rdS_str h2 und9
  cases e2
  obtain ⟨b3, e3, l3⟩ := rdS_str h3 und9
  cases e3
  obtain ⟨b4, e4, l4, u4⟩ := rdS_int h4 und2
  cases e4
  obtain ⟨b5, e5, l5⟩ := rdS_str h5 und9
  cases e5
  obtain ⟨b6, e6⟩ := rdS_bool h6 und4
  cases e6
  exact ⟨b0, b1, b2, b3, b4, b5, b6, rfl, ⟨l0, u0⟩, ⟨l1, u1⟩, l2, l3, ⟨l4, u4⟩, l5, trivial⟩
theorem rdT92 {f2 : Nat} (hf2 : f2 = f + 1) (h : RdS Try.prog H Bd f2 92 cs) : ∃ (a0 : Int) (a1 : ByteArray) (a2 : ByteArray) (a3 : ByteArray) (a4 : Int) (a5 : Int) (a6 : Int) (a7 : Int) (a8 : Int) (a9 : Int) (a10 : Int) (a11 : Int) (a12 : Int) (a13 : Bool) (a14 : Bool) (a15 : Bool) (a16 : Bool) (a17 : Bool) (a18 : Value) (a19 : Value) (a20 : Value), cs = [.int .i64 a0, .string a1, .string a2, .string a3, .int .i64 a4, .int .i64 a5, .int .i64 a6, .int .i64 a7, .int .i64 a8, .int .i64 a9, .int .i64 a10, .int .i64 a11, .int .i64 a12, .bool a13, .bool a14, .bool a15, .bool a16, .bool a17, a18, a19, a20] ∧ (IntKind.min .i64 ≤ a0 ∧ a0 ≤ IntKind.max .i64) ∧ (a1.size ≤ Bd) ∧ (a2.size ≤ Bd) ∧ (a3.size ≤ Bd) ∧ (IntKind.min .i64 ≤ a4 ∧ a4 ≤ IntKind.max .i64) ∧ (IntKind.min .i64 ≤ a5 ∧ a5 ≤ IntKind.max .i64) ∧ (IntKind.min .i64 ≤ a6 ∧ a6 ≤ IntKind.max .i64) ∧ (IntKind.min .i64 ≤ a7 ∧ a7 ≤ IntKind.max .i64) ∧ (IntKind.min .i64 ≤ a8 ∧ a8 ≤ IntKind.max .i64) ∧ (IntKind.min .i64 ≤ a9 ∧ a9 ≤ IntKind.max .i64) ∧ (IntKind.min .i64 ≤ a10 ∧ a10 ≤ IntKind.max .i64) ∧ (IntKind.min .i64 ≤ a11 ∧ a11 ≤ IntKind.max .i64) ∧ (IntKind.min .i64 ≤ a12 ∧ a12 ≤ IntKind.max .i64) ∧ (True) ∧ (True) ∧ (True) ∧ (True) ∧ (True) ∧ (RdS Try.prog H Bd f 90 [a18]) ∧ (RdS Try.prog H Bd f 59 [a19]) ∧ (RdS Try.prog H Bd f 59 [a20]) := by
  obtain ⟨hl, hp⟩ := rdS_struct1 hf2 h (k := 21) (fs := [(3, 0), (9, 1), (9, 2), (9, 3), (2, 4), (2, 5), (2, 6), (3, 7), (3, 8), (2, 9), (2, 10), (2, 11), (2, 12), (4, 13), (4, 14), (4, 15), (4, 16), (4, 17), (90, 18), (59, 19), (59, 20)]) (by kernel_rfl) (by kernel_rfl) (by kernel_rfl)
  obtain ⟨v0, r0, rfl, w0⟩ := cons_of hl
  obtain ⟨v1, r1, rfl, w1⟩ := cons_of w0
  obtain ⟨v2, r2, rfl, w2⟩ := cons_of w1
  obtain ⟨v3, r3, rfl, w3⟩ := cons_of w2
  obtain ⟨v4, r4, rfl, w4⟩ := cons_of w3
  obtain ⟨v5, r5, rfl, w5⟩ := cons_of w4
  obtain ⟨v6, r6, rfl, w6⟩ := cons_of w5
  obtain ⟨v7, r7, rfl, w7⟩ := cons_of w6
  obtain ⟨v8, r8, rfl, w8⟩ := cons_of w7
  obtain ⟨v9, r9, rfl, w9⟩ := cons_of w8
  obtain ⟨v10, r10, rfl, w10⟩ := cons_of w9
  obtain ⟨v11, r11, rfl, w11⟩ := cons_of w10
  obtain ⟨v12, r12, rfl, w12⟩ := cons_of w11
  obtain ⟨v13, r13, rfl, w13⟩ := cons_of w12
  obtain ⟨v14, r14, rfl, w14⟩ := cons_of w13
  obtain ⟨v15, r15, rfl, w15⟩ := cons_of w14
  obtain ⟨v16, r16, rfl, w16⟩ := cons_of w15
  obtain ⟨v17, r17, rfl, w17⟩ := cons_of w16
  obtain ⟨v18, r18, rfl, w18⟩ := cons_of w17
  obtain ⟨v19, r19, rfl, w19⟩ := cons_of w18
  obtain ⟨v20, r20, rfl, w20⟩ := cons_of w19
  obtain rfl := List.eq_nil_of_length_eq_zero w20
  obtain ⟨h0, h1, h2, h3, h4, h5, h6, h7, h8, h9, h10, h11, h12, h13, h14, h15, h16, h17, h18, h19, h20, _⟩ := hp
  have z2 : Try.prog.cellsOf 2 = 1 := by kernel_rfl
  have z3 : Try.prog.cellsOf 3 = 1 := by kernel_rfl
  have z4 : Try.prog.cellsOf 4 = 1 := by kernel_rfl
  have z9 : Try.prog.cellsOf 9 = 1 := by kernel_rfl
  have z59 : Try.prog.cellsOf 59 = 1 := by kernel_rfl
  have z90 : Try.prog.cellsOf 90 = 1 := by kernel_rfl
  simp only [z2, z3, z4, z9, z59, z90, List.drop_zero, List.drop_succ_cons, List.take_succ_cons, List.take_zero] at h0 h1 h2 h3 h4 h5 h6 h7 h8 h9 h10 h11 h12 h13 h14 h15 h16 h17 h18 h19 h20
  obtain ⟨b0, e0, l0, u0⟩ := rdS_int h0 und3
  cases e0
  obtain ⟨b1, e1, l1⟩ := rdS_str h1 und9
  cases e1
  obtain ⟨b2, e2, l2⟩ := rdS_str h2 und9
  cases e2
  obtain ⟨b3, e3, l3⟩ := rdS_str h3 und9
  cases e3
  obtain ⟨b4, e4, l4, u4⟩ := rdS_int h4 und2
  cases e4
  obtain ⟨b5, e5, l5, u5⟩ := rdS_int h5 und2
  cases e5
  obtain ⟨b6, e6, l6, u6⟩ := rdS_int h6 und2
  cases e6
  obtain ⟨b7, e7, l7, u7⟩ := rdS_int h7 und3
  cases e7
  obtain ⟨b8, e8, l8, u8⟩ := rdS_int h8 und3
  cases e8
  obtain ⟨b9, e9, l9, u9⟩ := rdS_int h9 und2
  cases e9
  obtain ⟨b10, e10, l10, u10⟩ := rdS_int h10 und2
  cases e10
  obtain ⟨b11, e11, l11, u11⟩ := rdS_int h11 und2
  cases e11
  obtain ⟨b12, e12, l12, u12⟩ := rdS_int h12 und2
  cases e12
  obtain ⟨b13, e13⟩ := rdS_bool h13 und4
  cases e13
  obtain ⟨b14, e14⟩ := rdS_bool h14 und4
  cases e14
  obtain ⟨b15, e15⟩ := rdS_bool h15 und4
  cases e15
  obtain ⟨b16, e16⟩ := rdS_bool h16 und4
  cases e16
  obtain ⟨b17, e17⟩ := rdS_bool h17 und4
  cases e17
  exact ⟨b0, b1, b2, b3, b4, b5, b6, b7, b8, b9, b10, b11, b12, b13, b14, b15, b16, b17, v18, v19, v20, rfl, ⟨l0, u0⟩, l1, l2, l3, ⟨l4, u4⟩, ⟨l5, u5⟩, ⟨l6, u6⟩, ⟨l7, u7⟩, ⟨l8, u8⟩, ⟨l9, u9⟩, ⟨l10, u10⟩, ⟨l11, u11⟩, ⟨l12, u12⟩, trivial, trivial, trivial, trivial, trivial, h18, h19, h20⟩
end
theorem un59 : Try.prog.underlying 59 = some (.slice 92) := by kernel_rfl
theorem un90 : Try.prog.underlying 90 = some (.slice 222) := by kernel_rfl
theorem by92 : 1 ≤ Try.prog.bytesOf 92 := by decide +kernel
theorem by222 : 1 ≤ Try.prog.bytesOf 222 := by decide +kernel
theorem mulB {n b : Nat} (hb : 1 ≤ b) (h : n * b ≤ Bd) : n ≤ Bd := Nat.le_trans (by have := Nat.mul_le_mul_left n hb; omega) h
/-- Compares, read. -/
theorem read_cmps {H : Heap} {f : Nat} {v : Value} (h : RdS Try.prog H Bd f 90 [v]) : ∃ p n c, v = .slice p n c ∧ CmpsOk H p n := by
  obtain ⟨p, n, c, l, e, hn, _, _, hb, hR, hg⟩ := rdS_slice (fl := CmT.cells) (z := 7) (good := SzC) h un90 (by kernel_rfl) (by
    intro g es h
    obtain ⟨g', hg'⟩ := rdS_pos h
    obtain ⟨a0, a1, a2, a3, a4, a5, a6, rfl, _, _, s2, s3, _, s5, _⟩ := rdT222 hg' h
    exact ⟨⟨a0, a1, a2, a3, a4, a5, a6⟩, rfl, s2, s3, s5⟩)
  cases e
  exact ⟨p, n, c, rfl, mulB by222 hb, l, hR, hn.symm, hg⟩
/-- Requests, read. -/
theorem read_reqs {H : Heap} : ∀ (k f : Nat) {v : Value}, f = 2 * k → RdS Try.prog H Bd f 59 [v] → ∃ p n c, v = .slice p n c ∧ ∃ xs : List (RQ k), RowsQ k H p n xs
  | 0, f, v, hf, h => by
    obtain ⟨g, hg⟩ := rdS_pos h
    omega
  | k + 1, f, v, hf, h => by
    have hd : ∀ f2, f2 = 2 * k + 1 → ∀ es, RdS Try.prog H Bd f2 92 es → ∃ x : RqF (RQ k), es = x.cells ∧ (SzQ x ∧ CmpsOk H x.cp x.cn ∧ RowsQ k H x.tp x.tn x.T ∧ RowsQ k H x.ep x.el x.E) := by
      intro f2 hf2 es h
      obtain ⟨a0, a1, a2, a3, a4, a5, a6, a7, a8, a9, a10, a11, a12, a13, a14, a15, a16, a17, a18, a19, a20, rfl, _, s1, s2, s3, _, _, _, _, _, _, _, _, _, _, _, _, _, _, h18, h19, h20⟩ := rdT92 hf2 h
      obtain ⟨p1, n1, c1, rfl, hc⟩ := read_cmps h18
      obtain ⟨p2, n2, c2, rfl, T, hT⟩ := read_reqs k _ rfl h19
      obtain ⟨p3, n3, c3, rfl, E, hE⟩ := read_reqs k _ rfl h20
      exact ⟨⟨a0, a1, a2, a3, a4, a5, a6, a7, a8, a9, a10, a11, a12, a13, a14, a15, a16, a17, p1, n1, c1, p2, n2, c2, p3, n3, c3, T, E⟩, rfl, ⟨s1, s2, s3⟩, hc, hT, hE⟩
    obtain ⟨m, hm⟩ : ∃ m, m = 2 * k + 1 := ⟨_, rfl⟩
    obtain ⟨p, n, c, l, e, hn, _, _, hb, hR, hg⟩ := rdS_slice1 (fl := RqF.cells (C := RQ k)) (z := 21) (good := fun x => SzQ x ∧ CmpsOk H x.cp x.cn ∧ RowsQ k H x.tp x.tn x.T ∧ RowsQ k H x.ep x.el x.E) (show f = m + 1 by omega) h un59 (by kernel_rfl) (hd m hm)
    cases e
    exact ⟨p, n, c, rfl, l, mulB by92 hb, hn.symm, hR, hg⟩
theorem walk_FnOverlaps (H : Heap) {f0 : Nat} {a : Option Addr} {n c : Nat} (h0 : RdS Try.prog H Bd f0 59 [.slice a n c]) : CallsH Try.prog 8 #[.slice a n c] H (Gives (.bool true) H) := by
  obtain ⟨p, n', c', e, xs, hR⟩ := read_reqs f0 (2 * f0) rfl (h0.le (by omega))
  cases e
  exact law_ok hR
set_option maxRecDepth 100000 in
theorem lifted_FnOverlaps (os : Os) (started : os.Started) (K : Type) (enc : TypeId × Value → K) :
    ReturnsInHanded {} Try.checked os 8 .any (Rows.fnOverlapsSpec.pre6 enc Try.prog Try.f8 Rows.fnOverlapsRow.domain false) (Rows.fnOverlapsSpec.post enc Try.prog Try.f8 false true false false) := by
  refine returnsInHanded_of_change_sized (C := Try.checked) own9 started (by kernel_rfl) Try.func8
    (ChangeSpec.witness6 (enc := enc) (C := Try.checked) false ⟨#[], #[.slice none 0 0], []⟩ 8 (by kernel_rfl) (by kernel_rfl) (by kernel_rfl) (by kernel_rfl)) ?_
  intro W base args ds gs before hval0 hW hcnd hsz _
  have hval : ∀ (j : Nat) t v, Try.f8.params[j]? = some t → args[j]? = some v → Value.okWide Try.prog W .any base t v := hval0
  have hW' := hW
  obtain ⟨p, q, hA0, hV, rfl, hfz, hnd⟩ := hW
  have hA : DataW.TrodAll enc Try.prog W 0 (fun _ => true) true Try.f8.params.toList args.toList ds p := hA0
  rw [Try.params8] at hA hval
  obtain ⟨v0, vs0, d0, ds0, p0, q0, hargs, rfl, rfl, h0, r0⟩ := trodAll_cons hA
  obtain ⟨rfl, rfl, rfl⟩ := trodAll_nil r0
  obtain rfl : args = #[v0] := by cases args; simp_all
  obtain ⟨rfl, rfl⟩ := trodVars_none hV
  obtain ⟨a0, l0, m0, rfl⟩ := okWide_slice Try.underlying59 (hval 0 59 v0 rfl rfl)
  have k0 := h0
  have lt0 : ∀ x ∈ p0, x.block < W.heap.size := by obtain ⟨m, hm⟩ := k0; exact DataW.trod_lt m _ _ _ hm
  obtain ⟨fu0, hf0⟩ := h0
  have rd0 := rdS_of_trod (B := Bd) hf0 (fun n hn => of_decide_eq_true (List.all_eq_true.1 hsz n (DataW.weights_mem_each (j := 0) (t := 59) (d := d0) rfl rfl n hn)))
  clear hA0 hval0
  refine ((walk_FnOverlaps W.heap rd0) W rfl).mono fun e W' ⟨sm, he, ex⟩ => ?_
  subst he
  have bel : Below W.heap.size W W' := ⟨sm.os, sm.tape, sm.output, ex.size, fun b hb => ex.block b hb⟩
  exact ⟨_, rfl, _, _, _, [], _, [], hW', trodAll_mk1 (shut_bool Try.underlying4 _), (trodAll_cons_mk (Below.trod laid9 (by kernel_rfl) (of_decide_eq_true (by kernel_rfl)) k0 bel lt0) trodAll_mk0), rfl, bel.frame _, fun h => by cases h⟩
theorem over_FnOverlaps : Rows.fnOverlapsRow.holds Try.pinned (OpenSpec.ofChange Rows.fnOverlapsSpec) :=
  OpenClaim.holds_of_wide 8 Try.f8 rfl rfl rfl rfl rfl rfl rfl ⟨rfl, rfl, rfl, rfl, rfl⟩ rfl rfl rfl rfl rfl (by kernel_rfl) Try.func8 (by kernel_rfl)
    (of_decide_eq_true (by kernel_rfl)) (by unfold Func.isWrapper; first | (rw [if_pos (by decide +kernel)]; kernel_rfl) | (rw [if_neg (by decide +kernel)]; exact ⟨rfl, rfl⟩))
    (fun os started K enc _ => lifted_FnOverlaps os started K enc)
/-- The given statement. -/
theorem proved_FnOverlaps : Rows.FnOverlapsSaid := over_FnOverlaps
end Go.Proofs.Ytobolifgehagfaa
