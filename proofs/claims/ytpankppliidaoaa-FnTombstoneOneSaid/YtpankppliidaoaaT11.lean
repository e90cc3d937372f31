/- What functions of this seat do, each proved by a walk; no condition. -/
import Derived.Test.YtpankppliidaoaaT10
import Derived.Test.YtpankppliidaoaaDenZ
import Derived.Test.YtpankppliidaoaaRows
import Derived.WalkKit
import Derived.ProofKit
import Derived.OpenShut
import Derived.ShutString
import Derived.ChangeOld
import Derived.Below
set_option linter.unusedVariables false
namespace Go.Proofs.Ytpankppliidaoaa
open Go Go.Den Go.Proofs
open Go.ChangeShapes Go.WideShapes Go.ChangeAt Go.RowKit
open Go.ChangeMaps (open_string shut_string)
theorem own : ownKnob Try.prog.godebug = none := by kernel_rfl
theorem laidOut : laidOutB Try.prog = true := by kernel_rfl
theorem rd_i64 {H : Heap} {f : Nat} {cs : List Value} (h : Rd Try.prog H f 2 cs) : ∃ n, cs = [.int .i64 n] ∧ -9223372036854775808 ≤ n ∧ n ≤ 9223372036854775807 := by
  cases f with
  | zero => exact h.elim
  | succ f => simp only [Rd, u2] at h; exact h
theorem u35 : Try.prog.underlying 35 = some (.struct #[{ name := "Main", type := 2, offset := 0, embedded := false, tag := "", pkgPath := "", byteOffset := 0 }, { name := "Sub", type := 2, offset := 1, embedded := false, tag := "", pkgPath := "", byteOffset := 8 }]) := by kernel_rfl
theorem two_of {α : Type} {cs : List α} (h : cs.length = 2) : ∃ a b, cs = [a, b] := by
  rcases cs with _ | ⟨a, _ | ⟨b, _ | ⟨c, r⟩⟩⟩
  · cases h
  · cases h
  · exact ⟨a, b, rfl⟩
  · simp at h
theorem rd_rev {H : Heap} {f : Nat} {cs : List Value} (h : Rd Try.prog H f 35 cs) : ∃ m s, cs = [.int .i64 m, .int .i64 s] ∧ m ≤ 9223372036854775807 ∧ s ≤ 9223372036854775807 := by
  cases f with
  | zero => exact h.elim
  | succ f =>
    simp only [Rd, u35] at h
    obtain ⟨hl, hx⟩ := h
    have h1 := hx _ (List.mem_cons_self ..)
    have h2 := hx _ (List.mem_cons_of_mem _ (List.mem_cons_self ..))
    have c2 : Try.prog.cellsOf 2 = 1 := by kernel_rfl
    have c35 : Try.prog.cellsOf 35 = 2 := by kernel_rfl
    rw [c35] at hl
    obtain ⟨a, b, rfl⟩ := two_of hl
    simp only [c2, List.drop_zero, List.drop_succ_cons, List.take_succ_cons, List.take_zero] at h1 h2
    obtain ⟨m, e1, _, q1⟩ := rd_i64 h1
    obtain ⟨s, e2, _, q2⟩ := rd_i64 h2
    cases e1; cases e2
    exact ⟨m, s, rfl, q1, q2⟩
theorem walk_FnRevBack (H : Heap) {f : Nat} {cs : List Value} (h : Rd Try.prog H f 35 cs) : CallsH Try.prog 4 #[.agg ⟨cs⟩] H (Gives (.bool true) H) := by
  obtain ⟨m, s, rfl, h1, h2⟩ := rd_rev h
  exact revBack_ok m s (by omega) (by omega) H
theorem walk_FnRevGreater (H : Heap) {f f' f'' : Nat} {cs ds es : List Value} (h : Rd Try.prog H f 35 cs) (h' : Rd Try.prog H f' 35 ds) (h'' : Rd Try.prog H f'' 35 es) : CallsH Try.prog 5 #[.agg ⟨cs⟩, .agg ⟨ds⟩, .agg ⟨es⟩] H (Gives (.bool true) H) := by
  obtain ⟨m, s, rfl, _, _⟩ := rd_rev h
  obtain ⟨m', s', rfl, _, _⟩ := rd_rev h'
  obtain ⟨m'', s'', rfl, _, _⟩ := rd_rev h''
  exact revGreater_ok m s m' s' m'' s'' H
set_option maxRecDepth 100000 in
theorem lifted_FnRevBack (os : Os) (started : os.Started) (K : Type) (enc : TypeId × Value → K) :
    ReturnsInHanded {} Try.checked os 4 .any (Rows.fnRevBackSpec.pre6 enc Try.prog Try.f4 Rows.fnRevBackRow.domain false) (Rows.fnRevBackSpec.post enc Try.prog Try.f4 false true false false) := by
  refine returnsInHanded_of_change (C := Try.checked) own started (by kernel_rfl) Try.func4
    (ChangeSpec.witness6 (enc := enc) (C := Try.checked) false ⟨#[], #[.agg #[.int .i64 0, .int .i64 0]], []⟩ 8 (by kernel_rfl) (by kernel_rfl) (by kernel_rfl) (by kernel_rfl)) ?_
  intro W base args ds gs before hval0 hW hcnd _
  have hval : ∀ (j : Nat) t v, Try.f4.params[j]? = some t → args[j]? = some v → Value.okWide Try.prog W .any base t v := hval0
  have hW' := hW
  obtain ⟨p, q, hA0, hV, rfl, hfz, hnd⟩ := hW
  have hA : DataW.TrodAll enc Try.prog W 0 (fun _ => true) true Try.f4.params.toList args.toList ds p := hA0
  rw [Try.params4] at hA hval
  obtain ⟨v0, vs0, d0, ds0, p0, q0, hargs, rfl, rfl, h0, r0⟩ := trodAll_cons hA
  obtain ⟨rfl, rfl, rfl⟩ := trodAll_nil r0
  obtain rfl : args = #[v0] := by cases args; simp_all
  obtain ⟨rfl, rfl⟩ := trodVars_none hV
  obtain ⟨⟨c0⟩, rfl, z0⟩ := okWide_struct Try.underlying35 (hval 0 35 v0 rfl rfl)
  have k0 := h0
  have lt0 : ∀ x ∈ p0, x.block < W.heap.size := by obtain ⟨m, hm⟩ := k0; exact DataW.trod_lt m _ _ _ hm
  obtain ⟨fu0, hf0⟩ := h0
  have rd0 := rd_of_trod hf0
  clear hA0 hval0
  refine ((walk_FnRevBack W.heap rd0) W rfl).mono fun e W' ⟨sm, he, ex⟩ => ?_
  subst he
  have bel : Below W.heap.size W W' := ⟨sm.os, sm.tape, sm.output, ex.size, fun b hb => ex.block b hb⟩
  exact ⟨_, rfl, _, _, _, [], _, [], hW', trodAll_mk1 (shut_bool Try.underlying4 _), (trodAll_cons_mk (Below.trod laidOut (by kernel_rfl) (of_decide_eq_true (by kernel_rfl)) k0 bel lt0) trodAll_mk0), rfl, bel.frame _, fun h => by cases h⟩
theorem over_FnRevBack : Rows.fnRevBackRow.holds Try.pinned (OpenSpec.ofChange Rows.fnRevBackSpec) :=
  OpenClaim.holds_of_wide 4 Try.f4 rfl rfl rfl rfl rfl rfl rfl ⟨rfl, rfl, rfl, rfl, rfl⟩ rfl rfl rfl rfl rfl (by kernel_rfl) Try.func4 (by kernel_rfl)
    (of_decide_eq_true (by kernel_rfl)) (by unfold Func.isWrapper; first | (rw [if_pos (by decide +kernel)]; kernel_rfl) | (rw [if_neg (by decide +kernel)]; exact ⟨rfl, rfl⟩))
    (fun os started K enc _ => lifted_FnRevBack os started K enc)
/-- The given statement. -/
theorem proved_FnRevBack : Rows.FnRevBackSaid := over_FnRevBack
set_option maxRecDepth 100000 in
theorem lifted_FnRevGreater (os : Os) (started : os.Started) (K : Type) (enc : TypeId × Value → K) :
    ReturnsInHanded {} Try.checked os 5 .any (Rows.fnRevGreaterSpec.pre6 enc Try.prog Try.f5 Rows.fnRevGreaterRow.domain false) (Rows.fnRevGreaterSpec.post enc Try.prog Try.f5 false true false false) := by
  refine returnsInHanded_of_change (C := Try.checked) own started (by kernel_rfl) Try.func5
    (ChangeSpec.witness6 (enc := enc) (C := Try.checked) false ⟨#[], #[.agg #[.int .i64 0, .int .i64 0], .agg #[.int .i64 0, .int .i64 0], .agg #[.int .i64 0, .int .i64 0]], []⟩ 8 (by kernel_rfl) (by kernel_rfl) (by kernel_rfl) (by kernel_rfl)) ?_
  intro W base args ds gs before hval0 hW hcnd _
  have hval : ∀ (j : Nat) t v, Try.f5.params[j]? = some t → args[j]? = some v → Value.okWide Try.prog W .any base t v := hval0
  have hW' := hW
  obtain ⟨p, q, hA0, hV, rfl, hfz, hnd⟩ := hW
  have hA : DataW.TrodAll enc Try.prog W 0 (fun _ => true) true Try.f5.params.toList args.toList ds p := hA0
  rw [Try.params5] at hA hval
  obtain ⟨v0, vs0, d0, ds0, p0, q0, hargs, rfl, rfl, h0, r0⟩ := trodAll_cons hA
  obtain ⟨v1, vs1, d1, ds1, p1, q1, rfl, rfl, rfl, h1, r1⟩ := trodAll_cons r0
  obtain ⟨v2, vs2, d2, ds2, p2, q2, rfl, rfl, rfl, h2, r2⟩ := trodAll_cons r1
  obtain ⟨rfl, rfl, rfl⟩ := trodAll_nil r2
  obtain rfl : args = #[v0, v1, v2] := by cases args; simp_all
  obtain ⟨rfl, rfl⟩ := trodVars_none hV
  obtain ⟨⟨c0⟩, rfl, z0⟩ := okWide_struct Try.underlying35 (hval 0 35 v0 rfl rfl)
  obtain ⟨⟨c1⟩, rfl, z1⟩ := okWide_struct Try.underlying35 (hval 1 35 v1 rfl rfl)
  obtain ⟨⟨c2⟩, rfl, z2⟩ := okWide_struct Try.underlying35 (hval 2 35 v2 rfl rfl)
  have k0 := h0
  have lt0 : ∀ x ∈ p0, x.block < W.heap.size := by obtain ⟨m, hm⟩ := k0; exact DataW.trod_lt m _ _ _ hm
  obtain ⟨fu0, hf0⟩ := h0
  have rd0 := rd_of_trod hf0
  have k1 := h1
  have lt1 : ∀ x ∈ p1, x.block < W.heap.size := by obtain ⟨m, hm⟩ := k1; exact DataW.trod_lt m _ _ _ hm
  obtain ⟨fu1, hf1⟩ := h1
  have rd1 := rd_of_trod hf1
  have k2 := h2
  have lt2 : ∀ x ∈ p2, x.block < W.heap.size := by obtain ⟨m, hm⟩ := k2; exact DataW.trod_lt m _ _ _ hm
  obtain ⟨fu2, hf2⟩ := h2
  have rd2 := rd_of_trod hf2
  clear hA0 hval0
  refine ((walk_FnRevGreater W.heap rd0 rd1 rd2) W rfl).mono fun e W' ⟨sm, he, ex⟩ => ?_
  subst he
  have bel : Below W.heap.size W W' := ⟨sm.os, sm.tape, sm.output, ex.size, fun b hb => ex.block b hb⟩
  exact ⟨_, rfl, _, _, _, [], _, [], hW', trodAll_mk1 (shut_bool Try.underlying4 _), (trodAll_cons_mk (Below.trod laidOut (by kernel_rfl) (of_decide_eq_true (by kernel_rfl)) k0 bel lt0) (trodAll_cons_mk (Below.trod laidOut (by kernel_rfl) (of_decide_eq_true (by kernel_rfl)) k1 bel lt1) (trodAll_cons_mk (Below.trod laidOut (by kernel_rfl) (of_decide_eq_true (by kernel_rfl)) k2 bel lt2) trodAll_mk0))), rfl, bel.frame _, fun h => by cases h⟩
theorem over_FnRevGreater : Rows.fnRevGreaterRow.holds Try.pinned (OpenSpec.ofChange Rows.fnRevGreaterSpec) :=
  OpenClaim.holds_of_wide 5 Try.f5 rfl rfl rfl rfl rfl rfl rfl ⟨rfl, rfl, rfl, rfl, rfl⟩ rfl rfl rfl rfl rfl (by kernel_rfl) Try.func5 (by kernel_rfl)
    (of_decide_eq_true (by kernel_rfl)) (by unfold Func.isWrapper; first | (rw [if_pos (by decide +kernel)]; kernel_rfl) | (rw [if_neg (by decide +kernel)]; exact ⟨rfl, rfl⟩))
    (fun os started K enc _ => lifted_FnRevGreater os started K enc)
/-- The given statement. -/
theorem proved_FnRevGreater : Rows.FnRevGreaterSaid := over_FnRevGreater
end Go.Proofs.Ytpankppliidaoaa
