/- What functions of this seat do, each proved by a walk; no condition. -/
import Derived.Test.YtpjnmdeeoafclaaK20
set_option linter.unusedVariables false
set_option linter.unnecessarySimpa false
set_option linter.unusedSimpArgs false
namespace Go.Proofs.Ytpjnmdeeoafclaa
open Go Go.Den Go.Proofs
/-! FnKeyEmpty. -/
theorem empty_iff {G : List Gn} (hne : G ≠ []) (hL : Lives G) : (G.map (·.2.2) = [[]]) ↔ versG G = [] := by
  constructor
  · intro h
    have h2 : (versG G).length = 0 := by
      rw [versG_len]
      have : G.flatMap (·.2.2) = (G.map (·.2.2)).flatten := by rw [List.flatMap_def]
      rw [this, h]; rfl
    exact List.eq_nil_of_length_eq_zero h2
  · intro h
    have h2 : (G.flatMap (·.2.2)).length = 0 := by rw [← versG_len, h]; rfl
    match G, hne, hL, h2 with
    | [g], _, _, h2 =>
      have : g.2.2 = [] := List.eq_nil_of_length_eq_zero (by simpa using h2)
      simp [this]
    | g :: k :: r, _, hL, h2 =>
      exfalso
      have := List.length_pos_iff.2 hL.1
      simp only [List.flatMap_cons, List.length_append] at h2
      omega
theorem compact_lives {t : Int} {G : List Gn} (hne : G ≠ []) (hL : Lives G) : compactG t G ≠ [] ∧ Lives (compactG t G) ∧ versG (compactG t G) = compS t (versG G) := by
  have e1 := compactG_eq (t := t) hne
  obtain ⟨P, g, r, h1, h2⟩ := cpR_split (t := t) hne
  rw [e1]
  refine ⟨by rw [h2]; simp, ?_, (comp_law hL hne).symm⟩
  rw [h2]
  rw [h1] at hL
  exact lives_cut (lives_drop hL)
theorem compact_gok {t : Int} {G : List Gn} (hne : G ≠ []) (h : GOk G) : GOk (compactG t G) := by
  rw [compactG_eq (t := t) hne]
  obtain ⟨P, g, r, h1, h2⟩ := cpR_split (t := t) hne
  obtain ⟨j, hc, _⟩ := cut_eq (t := t) (g := g)
  rw [h2]
  rw [h1] at h
  refine ⟨by have := h.1; simp at this ⊢; omega, fun x hx => ?_⟩
  rcases List.mem_cons.1 hx with rfl | hx
  · have := h.2 g (by simp)
    rw [hc]
    dsimp only
    refine ⟨this.1, ?_⟩
    rw [List.length_drop]
    have := this.2
    omega
  · exact h.2 x (by simp [hx])
def emptyOps (t : Int) : List KO := [⟨9, (0, 0), (0, 0), 0, 0⟩, ⟨7, (0, 0), (0, 0), 0, t⟩, ⟨9, (0, 0), (0, 0), 0, 0⟩]
theorem empty_run {t : Int} {md : Rv} {G : List Gn} : krun md G (emptyOps t) = [⟨decide (G.map (·.2.2) = [[]]), z0, z0, 0, [], md, G⟩, ⟨false, z0, z0, 0, (cpM t G []).map (·.1), md, compactG t G⟩, ⟨decide ((compactG t G).map (·.2.2) = [[]]), z0, z0, 0, [], md, compactG t G⟩] := rfl
theorem empty_pre {t : Int} {md : Rv} {G : List Gn} (hne : G ≠ []) (h : GOk G) (ha : Asks G) : KPres md G (emptyOps t) := by
  have h2 := compact_gok (t := t) hne h
  refine ⟨⟨h, h, fun h => by simp at h, fun h => by simp at h, fun h => by simp at h, fun h => by simp at h⟩, ⟨h, h2, fun h => by simp at h, fun h => by simp at h, fun h => by simp at h, fun _ => ha⟩, ⟨h2, h2, fun h => by simp at h, fun h => by simp at h, fun h => by simp at h, fun h => by simp at h⟩, trivial⟩
end Go.Proofs.Ytpjnmdeeoafclaa

set_option linter.unusedVariables false
set_option linter.unnecessarySimpa false
set_option linter.unusedSimpArgs false
namespace Go.Proofs.Ytpjnmdeeoafclaa
open Go Go.Den Go.Proofs
theorem keyEmpty_ok {H : Heap} {s : Option Addr} {c : Nat} {ops : List KO} {t : Int} (hR : RowsAt KO.cells 7 H s ops) : CallsH Try.prog 4 ⟨[.slice s ops.length c, .int .i64 t]⟩ H (Gives (.bool true) H) := by
  have R0 : RowsC H s KO.cells 7 ops := ⟨hR⟩
  refine F4.calls ?_
  unfold F4.go
  refine iteB_i (fun h => ⟨rfl, ExtH.refl H⟩) (fun h => ?_)
  refine call_of (life_ok (L := [old H]) (Sat.start H)) ?_
  intro e H1 he
  cases hl : kyLife ops with
  | none =>
    rw [hl] at he
    obtain ⟨rfl, S1⟩ := he
    (repeat (first | (refine Step.go ?_; intros) | refine iteB_t (by decide) ?_ | refine iteB_f (by decide) ?_ | (refine Duo.mk (by first | omega | exact rfl | decide) ?_; intros) | (refine Duo.mk (Clo.mk (by kernel_rfl)) ?_; intros)))
    refine gives_i S1 (live_ok H1) ?_
    intro H2 E2 S2
    (repeat (first | (refine Step.go ?_; intros) | refine iteB_t (by decide) ?_ | refine iteB_f (by decide) ?_ | (refine Duo.mk (by first | omega | exact rfl | decide) ?_; intros) | (refine Duo.mk (Clo.mk (by kernel_rfl)) ?_; intros)))
    exact ⟨rfl, Sat.grown⟩
  | some la =>
    obtain ⟨l', aa⟩ := la
    rw [hl] at he
    obtain ⟨p', c', q, k, xs, rfl, hxs, S1⟩ := he
    have hn : ops.length ≤ 300 := by
      unfold kyLife at hl
      split at hl
      · cases hl
      · omega
    have hr : kyRun [] true ops = some (l', aa) := by
      unfold kyLife at hl
      rwa [if_neg (by omega)] at hl
    obtain ⟨k1, k2, k3, k4⟩ := run_start (by omega) hr
    (repeat (first | (refine Step.go ?_; intros) | refine iteB_t (by decide) ?_ | refine iteB_f (by decide) ?_ | (refine Duo.mk (by first | omega | exact rfl | decide) ?_; intros) | (refine Duo.mk (Clo.mk (by kernel_rfl)) ?_; intros)))
    refine iteB_i (fun h0 => ?_) (fun h0 => ?_)
    · refine gives_i S1 (live_ok H1) ?_
      intro H2 E2 S2
      (repeat (first | (refine Step.go ?_; intros) | refine iteB_t (by decide) ?_ | refine iteB_f (by decide) ?_ | (refine Duo.mk (by first | omega | exact rfl | decide) ?_; intros) | (refine Duo.mk (Clo.mk (by kernel_rfl)) ?_; intros)))
      exact ⟨rfl, Sat.grown⟩
    · have hne : l' ≠ [] := by intro h1; subst h1; simp at h0
      obtain ⟨md, G, I, hv⟩ : ∃ md G, Inv md G (1 + ops.length) ∧ versG G = l' := by
        rcases k4 with k4 | k4
        · exact absurd k4 hne
        · exact k4
      have hgok := I.gok (by omega)
      have hasks := I.asks (by omega)
      have hd : dumpG l' = G := by rw [← hv]; exact dump_law (shape_of I.lives I.waits I.ne) I.vne
      have hm : Mains l' := by unfold Mains; rw [← hv, versG_map]; exact (lives_pair I.lives).1
      have hl9 : l'.length < 100000 := by rw [← hv]; have := I.vlen; omega
      refine F4.L0_step ?_
      unfold F4.L0n
      have hRl : RowsAt vC 6 H1 p' l' := S1.rowsAt (List.mem_cons_self ..)
      refine grow_i S1 (sDump hRl rfl hl9) ?_
      rintro ⟨⟨⟨gp, gc⟩, Z⟩, hZ⟩ H2 E2 S2
      dsimp only at hZ
      simp only [List.cons_append, List.nil_append, DI.l, DI.v] at S2 ⊢
      have hZl : (dumpG l').length = Z.length := by rw [← hZ, List.length_map]
      rw [hZl] at S2 ⊢
      (repeat (first | (refine Step.go ?_; intros) | refine iteB_t (by decide) ?_ | refine iteB_f (by decide) ?_ | (refine Duo.mk (by first | omega | exact rfl | decide) ?_; intros) | (refine Duo.mk (Clo.mk (by kernel_rfl)) ?_; intros)))
      rename_i r H3 S3
      have RO : RowsAt KO.cells 7 H3 (some ⟨r, 0, none⟩) (emptyOps t) := RowsAt.of_block (S3.at_ (List.mem_cons_self ..)) (by
        intro i x hi j v hj
        have := flat_at (f := KO.cells) (z := 7) (fun _ _ => rfl) hi hj
        exact this)
      have hZG : Z.map gx = G := by rw [hZ, hd]
      have hGs : GsAt H3 gp Z := GsAt.of (T := 69) (U := 31) (n := Z.length) (c := gc) (l := sl vC 46 6 p' l'.length c' l' :: kaL q xs.length k xs [old H]) (S3.to (.drop .refl))
      have hZn : Z.length < 100000 := by have := hgok.1; rw [← hZG, List.length_map] at this; exact this
      have hZr : ∀ x ∈ Z, x.2.length < 100000 := fun x hx => (hgok.2 (gx x) (by rw [← hZG]; exact List.mem_map_of_mem hx)).2
      have kp := empty_pre (t := t) (md := modS l') I.ne hgok hasks
      refine grow_i S3 (key_grow (md := modS l') (X := Z) (pc := gc) (ops := emptyOps t) (c := 3) (by show 3 < 1000000; decide) hGs hZn hZr RO (by rw [hZG]; exact kp) (by decide)) ?_
      rintro ⟨⟨⟨gq, gk⟩, gs⟩, hgs⟩ H4 E4 S4
      dsimp only at hgs S4 ⊢
      rw [hZG, empty_run] at hgs S4 ⊢
      simp only [List.cons_append, List.nil_append, List.length_cons, List.length_nil] at S4 ⊢
      obtain ⟨x0, x1, x2, rfl⟩ : ∃ x0 x1 x2, gs = [x0, x1, x2] := by
        have := congrArg List.length hgs
        rw [List.length_map] at this
        rcases gs with _ | ⟨x0, _ | ⟨x1, _ | ⟨x2, _ | ⟨x3, r⟩⟩⟩⟩
        · simp at this
        · simp at this
        · simp at this
        · exact ⟨x0, x1, x2, rfl⟩
        · simp at this
      simp only [List.map_cons, List.map_nil, List.cons.injEq, and_true, KA.an, An.mk.injEq] at hgs
      obtain ⟨⟨h1, _⟩, _, ⟨h2, _⟩⟩ := hgs
      have i0 : HasI [x0, x1, x2] (0 : Int) x0 := ⟨rfl⟩
      have i2 : HasI [x0, x1, x2] (2 : Int) x2 := ⟨rfl⟩
      obtain ⟨r', o', rfl⟩ := S4.slSome (List.mem_cons_self ..) (by decide)
      (repeat (first | (refine Step.go ?_; intros) | refine iteB_t (by decide) ?_ | refine iteB_f (by decide) ?_ | (refine Duo.mk (by first | omega | exact rfl | decide) ?_; intros) | (refine Duo.mk (Clo.mk (by kernel_rfl)) ?_; intros)))
      refine iteB_t (by rw [h1, decide_eq_false hasks.ne2]; rfl) ?_
      (repeat (first | (refine Step.go ?_; intros) | refine iteB_t (by decide) ?_ | refine iteB_f (by decide) ?_ | (refine Duo.mk (by first | omega | exact rfl | decide) ?_; intros) | (refine Duo.mk (Clo.mk (by kernel_rfl)) ?_; intros)))
      have hRl4 : RowsAt vC 6 H4 p' l' := S4.rowsAt (List.mem_cons_of_mem _ (List.mem_cons_of_mem _ (List.mem_cons_of_mem _ (List.mem_cons_of_mem _ (List.mem_cons_of_mem _ (List.mem_cons_self ..))))))
      refine grow_i S4 (sComp (t := t) hRl4 rfl (by omega)) ?_
      rintro ⟨q2, k2⟩ H5 E5 S5
      rw [comp_acc hm] at S5 ⊢
      simp only [List.cons_append, List.nil_append] at S5 ⊢
      (repeat (first | (refine Step.go ?_; intros) | refine iteB_t (by decide) ?_ | refine iteB_f (by decide) ?_ | (refine Duo.mk (by first | omega | exact rfl | decide) ?_; intros) | (refine Duo.mk (Clo.mk (by kernel_rfl)) ?_; intros)))
      have hc : (decide ((compactG t G).map (·.2.2) = [[]])) = (((compS t l').length : Int) == 0) := by
        obtain ⟨c1, c2, c3⟩ := compact_lives (t := t) I.ne I.lives
        have := empty_iff c1 c2
        rw [c3, hv] at this
        rw [Bool.eq_iff_iff, decide_eq_true_iff, this, beq_iff_eq]
        constructor
        · intro h; rw [h]; rfl
        · intro h; exact List.eq_nil_of_length_eq_zero (by omega)
      refine iteB_t (by rw [h2, hc]; simp) ?_
      refine gives_i S5 (live_ok H5) ?_
      intro H6 E6 S6
      (repeat (first | (refine Step.go ?_; intros) | refine iteB_t (by decide) ?_ | refine iteB_f (by decide) ?_ | (refine Duo.mk (by first | omega | exact rfl | decide) ?_; intros) | (refine Duo.mk (Clo.mk (by kernel_rfl)) ?_; intros)))
      exact ⟨rfl, Sat.grown⟩
end Go.Proofs.Ytpjnmdeeoafclaa
