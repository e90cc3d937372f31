/- The law FnTreeHeight is proved: for every input it returns true, and what came in reads as it did. No condition. -/
import Derived.Test.YtobolifgehagfaaKN3
import Derived.Test.YtobolifgehagfaaDenE
import Derived.Test.YtobolifgehagfaaRows
import Derived.WalkKit
import Derived.ProofKit
import Derived.OpenShut
import Derived.ShutString
import Derived.ChangeOld
import Derived.Below
set_option linter.unusedVariables false
namespace Go.Proofs.Ytobolifgehagfaa
open Go Go.Den Go.Proofs
open Go.ChangeShapes Go.WideShapes Go.ChangeAt Go.RowKit
open Go.ChangeMaps (open_string shut_string)
theorem own9 : ownKnob Try.prog.godebug = none := by kernel_rfl
theorem laid9 : laidOutB Try.prog = true := by kernel_rfl
section
variable {H : Heap} {f : Nat} {cs : List Value}
theorem und9 : Try.prog.underlying 9 = some .string := by kernel_rfl
theorem und4 : Try.prog.underlying 4 = some .bool := by kernel_rfl
theorem rdT33 (h : Rd Try.prog H f 33 cs) : ∃ (a0 : ByteArray) (a1 : ByteArray) (a2 : Bool), cs = [.string a0, .string a1, .bool a2] ∧ (a0.size ≤ maxLen) ∧ (a1.size ≤ maxLen) ∧ (True) := by
  obtain ⟨g, hl, hp⟩ := rd_struct h (k := 3) (fs := [(9, 0), (9, 1), (4, 2)]) (by kernel_rfl) (by kernel_rfl) (by kernel_rfl)
  obtain ⟨v0, r0, rfl, w0⟩ := cons_of hl
  obtain ⟨v1, r1, rfl, w1⟩ := cons_of w0
  obtain ⟨v2, r2, rfl, w2⟩ := cons_of w1
  obtain rfl := List.eq_nil_of_length_eq_zero w2
  obtain ⟨h0, h1, h2, _⟩ := hp
  have z4 : Try.prog.cellsOf 4 = 1 := by kernel_rfl
  have z9 : Try.prog.cellsOf 9 = 1 := by kernel_rfl
  simp only [z4, z9, List.drop_zero, List.drop_succ_cons, List.take_succ_cons, List.take_zero] at h0 h1 h2
  obtain ⟨b0, e0, l0⟩ := rd_str h0 und9
  cases e0
  obtain ⟨b1, e1, l1⟩ := rd_str h1 und9
  cases e1
  obtain ⟨b2, e2⟩ := rd_bool h2 und4
  cases e2
  exact ⟨b0, b1, b2, rfl, l0, l1, trivial⟩
theorem und2 : Try.prog.underlying 2 = some (.int .i64) := by kernel_rfl
theorem rdT35 (h : Rd Try.prog H f 35 cs) : ∃ (a0 : ByteArray) (a1 : ByteArray) (a2 : Bool) (a3 : Int) (a4 : Int), cs = [.string a0, .string a1, .bool a2, .int .i64 a3, .int .i64 a4] ∧ (a0.size ≤ maxLen) ∧ (a1.size ≤ maxLen) ∧ (True) ∧ (IntKind.min .i64 ≤ a3 ∧ a3 ≤ IntKind.max .i64) ∧ (IntKind.min .i64 ≤ a4 ∧ a4 ≤ IntKind.max .i64) := by
  obtain ⟨g, hl, hp⟩ := rd_struct h (k := 5) (fs := [(33, 0), (2, 3), (2, 4)]) (by kernel_rfl) (by kernel_rfl) (by kernel_rfl)
  obtain ⟨v0, r0, rfl, w0⟩ := cons_of hl
  obtain ⟨v1, r1, rfl, w1⟩ := cons_of w0
  obtain ⟨v2, r2, rfl, w2⟩ := cons_of w1
  obtain ⟨v3, r3, rfl, w3⟩ := cons_of w2
  obtain ⟨v4, r4, rfl, w4⟩ := cons_of w3
  obtain rfl := List.eq_nil_of_length_eq_zero w4
  obtain ⟨h0, h1, h2, _⟩ := hp
  have z2 : Try.prog.cellsOf 2 = 1 := by kernel_rfl
  have z33 : Try.prog.cellsOf 33 = 3 := by kernel_rfl
  simp only [z2, z33, List.drop_zero, List.drop_succ_cons, List.take_succ_cons, List.take_zero] at h0 h1 h2
  obtain ⟨b0, b1, b2, e0, q0, q1, q2⟩ := rdT33 h0
  cases e0
  obtain ⟨b3, e3, l3, u3⟩ := rd_int h1 und2
  cases e3
  obtain ⟨b4, e4, l4, u4⟩ := rd_int h2 und2
  cases e4
  exact ⟨b0, b1, b2, b3, b4, rfl, q0, q1, q2, ⟨l3, u3⟩, ⟨l4, u4⟩⟩
end
theorem un31 : Try.prog.underlying 31 = some (.slice 35) := by kernel_rfl
theorem walk_FnTreeHeight (H : Heap) {f0 f1 : Nat} {a : Option Addr} {n c : Nat} {o : Int} (h0 : Rd Try.prog H f0 3 [.int .i64 o]) (h1 : Rd Try.prog H f1 31 [.slice a n c]) : CallsH Try.prog 6 #[.int .i64 o, .slice a n c] H (Gives (.bool true) H) := by
  obtain ⟨p, n', c', l, e, hn, _, _, hR, _⟩ := rd_slice (fl := SP.cells) (z := 5) (good := fun _ => True) h1 un31 (by kernel_rfl) (by
    intro g es h
    obtain ⟨a0, a1, a2, a3, a4, rfl, _⟩ := rdT35 h
    exact ⟨⟨a0, a1, a2, a3, a4⟩, rfl, trivial⟩)
  cases e
  exact treeHeight_ok hR hn.symm
set_option maxRecDepth 100000 in
theorem lifted_FnTreeHeight (os : Os) (started : os.Started) (K : Type) (enc : TypeId × Value → K) :
    ReturnsInHanded {} Try.checked os 6 .any (Rows.fnTreeHeightSpec.pre6 enc Try.prog Try.f6 Rows.fnTreeHeightRow.domain false) (Rows.fnTreeHeightSpec.post enc Try.prog Try.f6 false true false false) := by
  refine returnsInHanded_of_change (C := Try.checked) own9 started (by kernel_rfl) Try.func6
    (ChangeSpec.witness6 (enc := enc) (C := Try.checked) false ⟨#[], #[.int .i64 0, .slice none 0 0], []⟩ 8 (by kernel_rfl) (by kernel_rfl) (by kernel_rfl) (by kernel_rfl)) ?_
  intro W base args ds gs before hval0 hW hcnd _
  have hval : ∀ (j : Nat) t v, Try.f6.params[j]? = some t → args[j]? = some v → Value.okWide Try.prog W .any base t v := hval0
  have hW' := hW
  obtain ⟨p, q, hA0, hV, rfl, hfz, hnd⟩ := hW
  have hA : DataW.TrodAll enc Try.prog W 0 (fun _ => true) true Try.f6.params.toList args.toList ds p := hA0
  rw [Try.params6] at hA hval
  obtain ⟨v0, vs0, d0, ds0, p0, q0, hargs, rfl, rfl, h0, r0⟩ := trodAll_cons hA
  obtain ⟨v1, vs1, d1, ds1, p1, q1, rfl, rfl, rfl, h1, r1⟩ := trodAll_cons r0
  obtain ⟨rfl, rfl, rfl⟩ := trodAll_nil r1
  obtain rfl : args = #[v0, v1] := by cases args; simp_all
  obtain ⟨rfl, rfl⟩ := trodVars_none hV
  obtain ⟨c0, rfl⟩ := okWide_int Try.underlying3 (hval 0 3 v0 rfl rfl)
  obtain ⟨a1, l1, m1, rfl⟩ := okWide_slice Try.underlying31 (hval 1 31 v1 rfl rfl)
  have k0 := h0
  have lt0 : ∀ x ∈ p0, x.block < W.heap.size := by obtain ⟨m, hm⟩ := k0; exact DataW.trod_lt m _ _ _ hm
  obtain ⟨fu0, hf0⟩ := h0
  have rd0 := rd_of_trod hf0
  have k1 := h1
  have lt1 : ∀ x ∈ p1, x.block < W.heap.size := by obtain ⟨m, hm⟩ := k1; exact DataW.trod_lt m _ _ _ hm
  obtain ⟨fu1, hf1⟩ := h1
  have rd1 := rd_of_trod hf1
  clear hA0 hval0
  refine ((walk_FnTreeHeight W.heap rd0 rd1) W rfl).mono fun e W' ⟨sm, he, ex⟩ => ?_
  subst he
  have bel : Below W.heap.size W W' := ⟨sm.os, sm.tape, sm.output, ex.size, fun b hb => ex.block b hb⟩
  exact ⟨_, rfl, _, _, _, [], _, [], hW', trodAll_mk1 (shut_bool Try.underlying4 _), (trodAll_cons_mk (Below.trod laid9 (by kernel_rfl) (of_decide_eq_true (by kernel_rfl)) k0 bel lt0) (trodAll_cons_mk (Below.trod laid9 (by kernel_rfl) (of_decide_eq_true (by kernel_rfl)) k1 bel lt1) trodAll_mk0)), rfl, bel.frame _, fun h => by cases h⟩
theorem over_FnTreeHeight : Rows.fnTreeHeightRow.holds Try.pinned (OpenSpec.ofChange Rows.fnTreeHeightSpec) :=
  OpenClaim.holds_of_wide 6 Try.f6 rfl rfl rfl rfl rfl rfl rfl ⟨rfl, rfl, rfl, rfl, rfl⟩ rfl rfl rfl rfl rfl (by kernel_rfl) Try.func6 (by kernel_rfl)
    (of_decide_eq_true (by kernel_rfl)) (by unfold Func.isWrapper; first | (rw [if_pos (by decide +kernel)]; kernel_rfl) | (rw [if_neg (by decide +kernel)]; exact ⟨rfl, rfl⟩))
    (fun os started K enc _ => lifted_FnTreeHeight os started K enc)
/-- The given statement. -/
theorem proved_FnTreeHeight : Rows.FnTreeHeightSaid := over_FnTreeHeight
end Go.Proofs.Ytobolifgehagfaa
