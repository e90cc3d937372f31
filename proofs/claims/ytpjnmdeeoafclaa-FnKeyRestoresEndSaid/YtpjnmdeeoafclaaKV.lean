/- What functions of this seat do, each proved by a walk; no condition. -/
import Derived.Test.YtpjnmdeeoafclaaKU
set_option linter.unusedVariables false
set_option linter.unusedSimpArgs false
namespace Go.Proofs.Ytpjnmdeeoafclaa
open Go Go.Den Go.Proofs
theorem eqT31 {op : BinOp} {a0 b0 : Int} {a1 b1 : Int} {k : Bool → Prop} (h : k ([a0 == b0, a1 == b1].all id)) : rawB Try.prog op 31 (.agg ⟨[.int .i64 a0, .int .i64 a1]⟩) (.agg ⟨[.int .i64 b0, .int .i64 b1]⟩) k := by
  refine rawB_struct (P := Try.prog) (fs := #[{ name := "Main", type := 2, offset := 0, embedded := false, tag := "", pkgPath := "", byteOffset := 0 }, { name := "Sub", type := 2, offset := 1, embedded := false, tag := "", pkgPath := "", byteOffset := 8 }])
    (bs := [a0 == b0, a1 == b1]) (by kernel_rfl) (by kernel_rfl) (by kernel_rfl) ?_ h
  refine .cons (by decide) (part_leaf eu2 ea2 rfl) (part_leaf eu2 ea2 rfl) (equalIn_int eu2) ?_
  refine .cons (by decide) (part_leaf eu2 ea2 rfl) (part_leaf eu2 ea2 rfl) (equalIn_int eu2) .nil

abbrev AI (L : List An) := {x : (Option Addr × Nat) × List KA // x.2.map KA.an = L}
theorem key_grow {H : Heap} {md : Rv} {p : Option Addr} {pc : Nat} {X : List GX} {kt : ByteArray} {s : Option Addr} {c : Nat} {ops : List KO} (hn : ops.length < 1000000) (hG : GsAt H p X) (hX : X.length < 100000) (hr : ∀ x ∈ X, x.2.length < 100000) (hR : RowsAt KO.cells 7 H s ops) (hP : KPres md (X.map gx) ops) (hk : kt.size < 4611686018427387904) :
    CallsH Try.prog 9 ⟨[.string kt, .agg ⟨[.int .i64 md.1, .int .i64 md.2, .slice p X.length pc]⟩, .slice s ops.length c]⟩ H
      (fun e H1 => ∃ x : AI (krun md (X.map gx) ops), e = .returned (.tuple ⟨[.slice x.1.1.1 (krun md (X.map gx) ops).length x.1.1.2, .bool true]⟩) ∧ Sat H1 (kaL x.1.1.1 (krun md (X.map gx) ops).length x.1.1.2 x.1.2 [] ++ [old H])) := by
  refine CallsH.mono (key_ok hn hG hX hr hR hP hk) ?_
  rintro e H1 ⟨q, k, xs, hx, rfl, S⟩
  have hl : xs.length = (krun md (X.map gx) ops).length := by rw [← hx, List.length_map]
  rw [hl] at S ⊢
  exact ⟨⟨((q, k), xs), hx⟩, rfl, S⟩
def liveOps : List KO := [⟨1, (2, 0), (0, 0), 0, 0⟩, ⟨5, (0, 0), (0, 0), 0, 2⟩]
theorem live_run : krun (0, 0) (([] : List GX).map gx) liveOps = [⟨true, z0, z0, 0, [], (2, 0), [(1, (2, 0), [(2, 0)])]⟩, ⟨true, (2, 0), (2, 0), 1, [], (2, 0), [(1, (2, 0), [(2, 0)])]⟩] := rfl
theorem live_pre : KPres (0, 0) [] liveOps := by
  have e1 : (kop (0, 0) [] ⟨1, (2, 0), (0, 0), 0, 0⟩).G = [(1, (2, 0), [(2, 0)])] := rfl
  have e3 : (kop (kop (0, 0) [] ⟨1, (2, 0), (0, 0), 0, 0⟩).md (kop (0, 0) [] ⟨1, (2, 0), (0, 0), 0, 0⟩).G ⟨5, (0, 0), (0, 0), 0, 2⟩).G = [(1, (2, 0), [(2, 0)])] := rfl
  have g1 : GOk [(1, (2, 0), [(2, 0)])] := ⟨by decide, by intro x hx; simp at hx; subst hx; simp⟩
  refine ⟨⟨⟨by decide, by intro x hx; simp at hx⟩, by rw [e1]; exact g1, fun _ => rfl, fun h => by simp at h, fun h => by simp at h, fun h => by simp at h⟩, ⟨by rw [e1]; exact g1, by rw [e3]; exact g1, fun h => by simp at h, fun h => by simp at h, fun h => by simp at h, fun _ => ?_⟩, trivial⟩
  rw [e1]
  refine ⟨by simp, by simp, ?_, by simp, ?_⟩
  · intro i x h1 h2; simp at h2
  · intro x hx r hr; simp at hx; subst hx; simp at hr; subst hr; simp
theorem live_ok (H : Heap) : CallsH Try.prog 8 ⟨[]⟩ H (Gives (.bool true) H) := by
  refine F8.calls ?_
  unfold F8.go
  have S := Sat.start H
  refine Step.go ?_
  intro r H1 S1
  have R0 : RowsAt KO.cells 7 H1 (some ⟨r, 0, none⟩) liveOps := RowsAt.of_block (S1.at_ (List.mem_cons_self ..)) (by
    intro i x hi j v hj
    have := flat_at (f := KO.cells) (z := 7) (fun _ _ => rfl) hi hj
    exact this)
  have hG : GsAt H1 none [] := ⟨.inl rfl, fun x hx => by cases hx⟩
  refine grow_i S1 (key_grow (md := (0, 0)) (X := []) (pc := 0) (ops := liveOps) (c := 2) (by decide) hG (by decide) (fun x hx => by cases hx) R0 live_pre (by decide)) ?_
  rintro ⟨⟨⟨q, k⟩, xs⟩, hx⟩ H2 E2 S2
  dsimp only at hx S2 ⊢
  rw [live_run] at hx S2 ⊢
  simp only [List.cons_append, List.nil_append, List.length_cons, List.length_nil] at S2 ⊢
  obtain ⟨x0, x1, rfl⟩ : ∃ x0 x1, xs = [x0, x1] := by
    have := congrArg List.length hx
    rw [List.length_map] at this
    match xs, this with
    | [x0, x1], _ => exact ⟨x0, x1, rfl⟩
  simp only [List.map_cons, List.map_nil, List.cons.injEq, and_true, KA.an, An.mk.injEq] at hx
  obtain ⟨_, ⟨h1, h2, _, h3, _⟩⟩ := hx
  have i1 : HasI [x0, x1] (1 : Int) x1 := ⟨rfl⟩
  obtain ⟨r', o', rfl⟩ := S2.slSome (List.mem_cons_self ..) (by decide)
  (repeat (first | (refine Step.go ?_; intros) | refine iteB_t (by decide) ?_ | refine iteB_f (by decide) ?_ | (refine Duo.mk (by first | omega | exact rfl | decide) ?_; intros) | (refine Duo.mk (Clo.mk (by kernel_rfl)) ?_; intros)))
  refine iteB_t h1 ?_
  (repeat (first | (refine Step.go ?_; intros) | refine iteB_t (by decide) ?_ | refine iteB_f (by decide) ?_ | (refine Duo.mk (by first | omega | exact rfl | decide) ?_; intros) | (refine Duo.mk (Clo.mk (by kernel_rfl)) ?_; intros)))
  refine iteB_t (by rw [h3]; rfl) ?_
  (repeat (first | (refine Step.go ?_; intros) | refine iteB_t (by decide) ?_ | refine iteB_f (by decide) ?_ | (refine Duo.mk (by first | omega | exact rfl | decide) ?_; intros) | (refine Duo.mk (Clo.mk (by kernel_rfl)) ?_; intros)))
  refine eqT31 ?_
  rw [h2]
  exact ⟨rfl, Sat.grown⟩
end Go.Proofs.Ytpjnmdeeoafclaa
