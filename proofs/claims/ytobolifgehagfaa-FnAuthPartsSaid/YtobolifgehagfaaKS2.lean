/- The law FnAuthParts is proved: for every input it returns true, and what came in reads as it did. No condition. -/
import Derived.Test.YtobolifgehagfaaKN1
import Derived.Test.YtobolifgehagfaaDenE
import Derived.Test.YtobolifgehagfaaRows
import Derived.WalkKit
import Derived.ProofKit
import Derived.OpenShut
import Derived.ShutString
import Derived.ChangeOld
import Derived.Below
set_option linter.unusedVariables false
namespace Go.Proofs.Ytobolifgehagfaa
open Go Go.Den Go.Proofs
open Go.ChangeShapes Go.WideShapes Go.ChangeAt Go.RowKit
open Go.ChangeMaps (open_string shut_string)
theorem own9 : ownKnob Try.prog.godebug = none := by kernel_rfl
theorem laid9 : laidOutB Try.prog = true := by kernel_rfl
section
variable {H : Heap} {f : Nat} {cs : List Value}
theorem und3 : Try.prog.underlying 3 = some (.int .i64) := by kernel_rfl
theorem und9 : Try.prog.underlying 9 = some .string := by kernel_rfl
theorem rdT27 (h : Rd Try.prog H f 27 cs) : ∃ (a0 : Int) (a1 : ByteArray) (a2 : ByteArray), cs = [.int .i64 a0, .string a1, .string a2] ∧ (IntKind.min .i64 ≤ a0 ∧ a0 ≤ IntKind.max .i64) ∧ (a1.size ≤ maxLen) ∧ (a2.size ≤ maxLen) := by
  obtain ⟨g, hl, hp⟩ := rd_struct h (k := 3) (fs := [(3, 0), (9, 1), (9, 2)]) (by kernel_rfl) (by kernel_rfl) (by kernel_rfl)
  obtain ⟨v0, r0, rfl, w0⟩ := cons_of hl
  obtain ⟨v1, r1, rfl, w1⟩ := cons_of w0
  obtain ⟨v2, r2, rfl, w2⟩ := cons_of w1
  obtain rfl := List.eq_nil_of_length_eq_zero w2
  obtain ⟨h0, h1, h2, _⟩ := hp
  have z3 : Try.prog.cellsOf 3 = 1 := by kernel_rfl
  have z9 : Try.prog.cellsOf 9 = 1 := by kernel_rfl
  simp only [z3, z9, List.drop_zero, List.drop_succ_cons, List.take_succ_cons, List.take_zero] at h0 h1 h2
  obtain ⟨b0, e0, l0, u0⟩ := rd_int h0 und3
  cases e0
  obtain ⟨b1, e1, l1⟩ := rd_str h1 und9
  cases e1
  obtain ⟨b2, e2, l2⟩ := rd_str h2 und9
  cases e2
  exact ⟨b0, b1, b2, rfl, ⟨l0, u0⟩, l1, l2⟩
end
theorem un22 : Try.prog.underlying 22 = some (.slice 27) := by kernel_rfl
theorem walk_FnAuthParts (H : Heap) {f0 f1 f2 f3 f4 : Nat} {a : Option Addr} {n c : Nat} {s t u : ByteArray} {k : Int} (h0 : Rd Try.prog H f0 22 [.slice a n c]) (h1 : Rd Try.prog H f1 9 [.string s]) (h2 : Rd Try.prog H f2 9 [.string t]) (h3 : Rd Try.prog H f3 9 [.string u]) (h4 : Rd Try.prog H f4 3 [.int .i64 k]) : CallsH Try.prog 3 #[.slice a n c, .string s, .string t, .string u, .int .i64 k] H (Gives (.bool true) H) := by
  obtain ⟨p, n', c', l, e, hn, _, _, hR, _⟩ := rd_slice (fl := PM.cells) (z := 3) (good := fun _ => True) h0 un22 (by kernel_rfl) (by
    intro g es h
    obtain ⟨a0, a1, a2, rfl, _⟩ := rdT27 h
    exact ⟨⟨a0, a1, a2⟩, rfl, trivial⟩)
  cases e
  exact authParts_ok s t u hR hn.symm
set_option maxRecDepth 100000 in
theorem lifted_FnAuthParts (os : Os) (started : os.Started) (K : Type) (enc : TypeId × Value → K) :
    ReturnsInHanded {} Try.checked os 3 .any (Rows.fnAuthPartsSpec.pre6 enc Try.prog Try.f3 Rows.fnAuthPartsRow.domain false) (Rows.fnAuthPartsSpec.post enc Try.prog Try.f3 false true false false) := by
  refine returnsInHanded_of_change (C := Try.checked) own9 started (by kernel_rfl) Try.func3
    (ChangeSpec.witness6 (enc := enc) (C := Try.checked) false ⟨#[], #[.slice none 0 0, .string ⟨#[]⟩, .string ⟨#[]⟩, .string ⟨#[]⟩, .int .i64 0], []⟩ 8 (by kernel_rfl) (by kernel_rfl) (by kernel_rfl) (by kernel_rfl)) ?_
  intro W base args ds gs before hval0 hW hcnd _
  have hval : ∀ (j : Nat) t v, Try.f3.params[j]? = some t → args[j]? = some v → Value.okWide Try.prog W .any base t v := hval0
  have hW' := hW
  obtain ⟨p, q, hA0, hV, rfl, hfz, hnd⟩ := hW
  have hA : DataW.TrodAll enc Try.prog W 0 (fun _ => true) true Try.f3.params.toList args.toList ds p := hA0
  rw [Try.params3] at hA hval
  obtain ⟨v0, vs0, d0, ds0, p0, q0, hargs, rfl, rfl, h0, r0⟩ := trodAll_cons hA
  obtain ⟨v1, vs1, d1, ds1, p1, q1, rfl, rfl, rfl, h1, r1⟩ := trodAll_cons r0
  obtain ⟨v2, vs2, d2, ds2, p2, q2, rfl, rfl, rfl, h2, r2⟩ := trodAll_cons r1
  obtain ⟨v3, vs3, d3, ds3, p3, q3, rfl, rfl, rfl, h3, r3⟩ := trodAll_cons r2
  obtain ⟨v4, vs4, d4, ds4, p4, q4, rfl, rfl, rfl, h4, r4⟩ := trodAll_cons r3
  obtain ⟨rfl, rfl, rfl⟩ := trodAll_nil r4
  obtain rfl : args = #[v0, v1, v2, v3, v4] := by cases args; simp_all
  obtain ⟨rfl, rfl⟩ := trodVars_none hV
  obtain ⟨a0, l0, m0, rfl⟩ := okWide_slice Try.underlying22 (hval 0 22 v0 rfl rfl)
  obtain ⟨c1, rfl⟩ := okWide_string Try.underlying9 (hval 1 9 v1 rfl rfl)
  obtain ⟨c2, rfl⟩ := okWide_string Try.underlying9 (hval 2 9 v2 rfl rfl)
  obtain ⟨c3, rfl⟩ := okWide_string Try.underlying9 (hval 3 9 v3 rfl rfl)
  obtain ⟨c4, rfl⟩ := okWide_int Try.underlying3 (hval 4 3 v4 rfl rfl)
  have k0 := h0
  have lt0 : ∀ x ∈ p0, x.block < W.heap.size := by obtain ⟨m, hm⟩ := k0; exact DataW.trod_lt m _ _ _ hm
  obtain ⟨fu0, hf0⟩ := h0
  have rd0 := rd_of_trod hf0
  have k1 := h1
  have lt1 : ∀ x ∈ p1, x.block < W.heap.size := by obtain ⟨m, hm⟩ := k1; exact DataW.trod_lt m _ _ _ hm
  obtain ⟨fu1, hf1⟩ := h1
  have rd1 := rd_of_trod hf1
  have k2 := h2
  have lt2 : ∀ x ∈ p2, x.block < W.heap.size := by obtain ⟨m, hm⟩ := k2; exact DataW.trod_lt m _ _ _ hm
  obtain ⟨fu2, hf2⟩ := h2
  have rd2 := rd_of_trod hf2
  have k3 := h3
  have lt3 : ∀ x ∈ p3, x.block < W.heap.size := by obtain ⟨m, hm⟩ := k3; exact DataW.trod_lt m _ _ _ hm
  obtain ⟨fu3, hf3⟩ := h3
  have rd3 := rd_of_trod hf3
  have k4 := h4
  have lt4 : ∀ x ∈ p4, x.block < W.heap.size := by obtain ⟨m, hm⟩ := k4; exact DataW.trod_lt m _ _ _ hm
  obtain ⟨fu4, hf4⟩ := h4
  have rd4 := rd_of_trod hf4
  clear hA0 hval0
  refine ((walk_FnAuthParts W.heap rd0 rd1 rd2 rd3 rd4) W rfl).mono fun e W' ⟨sm, he, ex⟩ => ?_
  subst he
  have bel : Below W.heap.size W W' := ⟨sm.os, sm.tape, sm.output, ex.size, fun b hb => ex.block b hb⟩
  exact ⟨_, rfl, _, _, _, [], _, [], hW', trodAll_mk1 (shut_bool Try.underlying4 _), (trodAll_cons_mk (Below.trod laid9 (by kernel_rfl) (of_decide_eq_true (by kernel_rfl)) k0 bel lt0) (trodAll_cons_mk (Below.trod laid9 (by kernel_rfl) (of_decide_eq_true (by kernel_rfl)) k1 bel lt1) (trodAll_cons_mk (Below.trod laid9 (by kernel_rfl) (of_decide_eq_true (by kernel_rfl)) k2 bel lt2) (trodAll_cons_mk (Below.trod laid9 (by kernel_rfl) (of_decide_eq_true (by kernel_rfl)) k3 bel lt3) (trodAll_cons_mk (Below.trod laid9 (by kernel_rfl) (of_decide_eq_true (by kernel_rfl)) k4 bel lt4) trodAll_mk0))))), rfl, bel.frame _, fun h => by cases h⟩
theorem over_FnAuthParts : Rows.fnAuthPartsRow.holds Try.pinned (OpenSpec.ofChange Rows.fnAuthPartsSpec) :=
  OpenClaim.holds_of_wide 3 Try.f3 rfl rfl rfl rfl rfl rfl rfl ⟨rfl, rfl, rfl, rfl, rfl⟩ rfl rfl rfl rfl rfl (by kernel_rfl) Try.func3 (by kernel_rfl)
    (of_decide_eq_true (by kernel_rfl)) (by unfold Func.isWrapper; first | (rw [if_pos (by decide +kernel)]; kernel_rfl) | (rw [if_neg (by decide +kernel)]; exact ⟨rfl, rfl⟩))
    (fun os started K enc _ => lifted_FnAuthParts os started K enc)
/-- The given statement. -/
theorem proved_FnAuthParts : Rows.FnAuthPartsSaid := over_FnAuthParts
end Go.Proofs.Ytobolifgehagfaa
