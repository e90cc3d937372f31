/- The law FnTxnFilters is proved: for every input it returns true, and what came in reads as it did. No condition. -/
import Derived.Test.YtpankppliidaoaaT19
set_option linter.unusedVariables false
set_option linter.unusedSimpArgs false
namespace Go.Proofs.Ytpankppliidaoaa
open Go Go.Den Go.Proofs
open Go.ChangeShapes Go.WideShapes Go.ChangeAt Go.RowKit
open Go.ChangeMaps (open_string shut_string)
theorem un22 : Try.prog.underlying 22 = some (.slice 32) := by kernel_rfl
theorem un23 : Try.prog.underlying 23 = some (.slice 103) := by kernel_rfl
theorem un24 : Try.prog.underlying 24 = some (.slice 26) := by kernel_rfl
theorem rd_shape {H : Heap} {f : Nat} {v : Value} (h : Rd Try.prog H f 24 [v]) : ∃ p n c, v = .slice p n c := by
  obtain ⟨g, rfl⟩ := rd_pos h
  unfold Rd at h
  rw [un24] at h
  rcases h with h | ⟨a, n, c, h, _⟩
  · cases h; exact ⟨_, _, _, rfl⟩
  · cases h; exact ⟨_, _, _, rfl⟩
theorem walk_FnTxnFilters (H : Heap) {f0 f1 f2 : Nat} {a : Option Addr} {n c : Nat} {cs : List Value} {t : Int} (h0 : Rd Try.prog H f0 22 [.slice a n c]) (h1 : Rd Try.prog H f1 26 cs) (h2 : Rd Try.prog H f2 3 [.int .i64 t]) :
    CallsH Try.prog 3 #[.slice a n c, .agg ⟨cs⟩, .int .i64 t] H (Gives (.bool true) H) := by
  obtain ⟨p, n', c', l, e, hn, _, _, hR, hg⟩ := rd_slice (fl := KVr.cells) (z := 6) (good := okKV) h0 un22 (by kernel_rfl) (by
    intro g es h
    obtain ⟨a0, a1, a2, a3, a4, a5, rfl, q0, q1, _⟩ := rdT32 h
    refine ⟨⟨a0, a1, a2, a3, a4, a5⟩, rfl, ?_, ?_⟩ <;> unfold maxLen at * <;> simp only <;> omega)
  cases e
  obtain ⟨a0, a1, a2, a3, a4, a5, a6, a7, a8, a9, a10, a11, a12, a13, a14, a15, a16, a17, a18, a19, a20, rfl, _, _, _, _, _, _, _, _, _, _, _, _, _, _, _, _, _, _, ⟨g18, k18⟩, ⟨g19, k19⟩, ⟨g20, k20⟩⟩ := rdT26 h1
  obtain ⟨p18, n18, c18, lc, e18, hn18, _, _, hR18, _⟩ := rd_slice (fl := CmpR.cells) (z := 7) (good := fun _ => True) k18 un23 (by kernel_rfl) (by
    intro g es h
    obtain ⟨a0, a1, a2, a3, a4, a5, a6, rfl, _⟩ := rdT103 h
    exact ⟨⟨a0, a1, a2, a3, a4, a5, a6⟩, rfl, trivial⟩)
  cases e18
  obtain ⟨p19, n19, c19, rfl⟩ := rd_shape k19
  obtain ⟨p20, n20, c20, rfl⟩ := rd_shape k20
  exact law3 a n c l hn hg t a0 a1 a2 a3 a4 a5 a6 a7 a8 a9 a10 a11 a12 a13 a14 a15 a16 a17 p18 n18 c18 p19 n19 c19 p20 n20 c20 lc hn18 H hR18 hR
set_option maxRecDepth 100000 in
theorem lifted_FnTxnFilters (os : Os) (started : os.Started) (K : Type) (enc : TypeId × Value → K) :
    ReturnsInHanded {} Try.checked os 3 .any (Rows.fnTxnFiltersSpec.pre6 enc Try.prog Try.f3 Rows.fnTxnFiltersRow.domain false) (Rows.fnTxnFiltersSpec.post enc Try.prog Try.f3 false true false false) := by
  refine returnsInHanded_of_change (C := Try.checked) own20 started (by kernel_rfl) Try.func3
    (ChangeSpec.witness6 (enc := enc) (C := Try.checked) false ⟨#[], #[.slice none 0 0, .agg #[.int .i64 0, .string ⟨#[]⟩, .string ⟨#[]⟩, .string ⟨#[]⟩, .int .i64 0, .int .i64 0, .int .i64 0, .int .i64 0, .int .i64 0, .int .i64 0, .int .i64 0, .int .i64 0, .int .i64 0, .bool false, .bool false, .bool false, .bool false, .bool false, .slice none 0 0, .slice none 0 0, .slice none 0 0], .int .i64 0], []⟩ 8 (by kernel_rfl) (by kernel_rfl) (by kernel_rfl) (by kernel_rfl)) ?_
  intro W base args ds gs before hval0 hW hcnd _
  have hval : ∀ (j : Nat) t v, Try.f3.params[j]? = some t → args[j]? = some v → Value.okWide Try.prog W .any base t v := hval0
  have hW' := hW
  obtain ⟨p, q, hA0, hV, rfl, hfz, hnd⟩ := hW
  have hA : DataW.TrodAll enc Try.prog W 0 (fun _ => true) true Try.f3.params.toList args.toList ds p := hA0
  rw [Try.params3] at hA hval
  obtain ⟨v0, vs0, d0, ds0, p0, q0, hargs, rfl, rfl, h0, r0⟩ := trodAll_cons hA
  obtain ⟨v1, vs1, d1, ds1, p1, q1, rfl, rfl, rfl, h1, r1⟩ := trodAll_cons r0
  obtain ⟨v2, vs2, d2, ds2, p2, q2, rfl, rfl, rfl, h2, r2⟩ := trodAll_cons r1
  obtain ⟨rfl, rfl, rfl⟩ := trodAll_nil r2
  obtain rfl : args = #[v0, v1, v2] := by cases args; simp_all
  obtain ⟨rfl, rfl⟩ := trodVars_none hV
  obtain ⟨a0, l0, m0, rfl⟩ := okWide_slice Try.underlying22 (hval 0 22 v0 rfl rfl)
  obtain ⟨⟨c1⟩, rfl, z1⟩ := okWide_struct Try.underlying26 (hval 1 26 v1 rfl rfl)
  obtain ⟨c2, rfl⟩ := okWide_int Try.underlying3 (hval 2 3 v2 rfl rfl)
  have k0 := h0
  have lt0 : ∀ x ∈ p0, x.block < W.heap.size := by obtain ⟨m, hm⟩ := k0; exact DataW.trod_lt m _ _ _ hm
  obtain ⟨fu0, hf0⟩ := h0
  have rd0 := rd_of_trod hf0
  have k1 := h1
  have lt1 : ∀ x ∈ p1, x.block < W.heap.size := by obtain ⟨m, hm⟩ := k1; exact DataW.trod_lt m _ _ _ hm
  obtain ⟨fu1, hf1⟩ := h1
  have rd1 := rd_of_trod hf1
  have k2 := h2
  have lt2 : ∀ x ∈ p2, x.block < W.heap.size := by obtain ⟨m, hm⟩ := k2; exact DataW.trod_lt m _ _ _ hm
  obtain ⟨fu2, hf2⟩ := h2
  have rd2 := rd_of_trod hf2
  clear hA0 hval0
  refine ((walk_FnTxnFilters W.heap rd0 rd1 rd2) W rfl).mono fun e W' ⟨sm, he, ex⟩ => ?_
  subst he
  have bel : Below W.heap.size W W' := ⟨sm.os, sm.tape, sm.output, ex.size, fun b hb => ex.block b hb⟩
  exact ⟨_, rfl, _, _, _, [], _, [], hW', trodAll_mk1 (shut_bool Try.underlying4 _), (trodAll_cons_mk (Below.trod laid20 (by kernel_rfl) (of_decide_eq_true (by kernel_rfl)) k0 bel lt0) (trodAll_cons_mk (Below.trod laid20 (by kernel_rfl) (of_decide_eq_true (by kernel_rfl)) k1 bel lt1) (trodAll_cons_mk (Below.trod laid20 (by kernel_rfl) (of_decide_eq_true (by kernel_rfl)) k2 bel lt2) trodAll_mk0))), rfl, bel.frame _, fun h => by cases h⟩
theorem over_FnTxnFilters : Rows.fnTxnFiltersRow.holds Try.pinned (OpenSpec.ofChange Rows.fnTxnFiltersSpec) :=
  OpenClaim.holds_of_wide 3 Try.f3 rfl rfl rfl rfl rfl rfl rfl ⟨rfl, rfl, rfl, rfl, rfl⟩ rfl rfl rfl rfl rfl (by kernel_rfl) Try.func3 (by kernel_rfl)
    (of_decide_eq_true (by kernel_rfl)) (by unfold Func.isWrapper; first | (rw [if_pos (by decide +kernel)]; kernel_rfl) | (rw [if_neg (by decide +kernel)]; exact ⟨rfl, rfl⟩))
    (fun os started K enc _ => lifted_FnTxnFilters os started K enc)
/-- The given statement. -/
theorem proved_FnTxnFilters : Rows.FnTxnFiltersSaid := over_FnTxnFilters
end Go.Proofs.Ytpankppliidaoaa
