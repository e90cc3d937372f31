/- What functions of this seat do, each proved by a walk; no condition. -/
import Derived.Test.YtpjnmdeeoafclaaK20
set_option linter.unusedVariables false
set_option linter.unnecessarySimpa false
set_option linter.unusedSimpArgs false
namespace Go.Proofs.Ytpjnmdeeoafclaa
open Go Go.Den Go.Proofs
/-! FnKeyRestoresEnd: lives that go on from one change, whatever its revision. -/
theorem compS_sub {t : Int} {l : List Vs} : (compS t l).Sublist l := by
  unfold compS
  split
  · exact List.Sublist.refl _
  · rename_i j _
    cases hj : l[j]? with
    | none =>
      have := List.getElem?_eq_none_iff.1 hj
      simp only [Option.toList_none, List.filter_nil, List.nil_append]
      exact List.drop_sublist _ _
    | some v =>
      have h5 := List.getElem?_eq_some_iff.1 hj
      refine List.Sublist.trans ?_ (List.drop_sublist j l)
      rw [List.drop_eq_getElem_cons h5.1, h5.2]
      exact (List.filter_sublist (l := [v])).append (List.Sublist.refl (l.drop (j + 1)))
def VP (l : List Vs) (i : Nat) : Prop := l ≠ [] ∧ Mains l ∧ (∀ v ∈ l, 0 ≤ v.ver ∧ v.ver ≤ (i : Int) + 1) ∧ l.length ≤ i + 1
theorem VP.ok {l : List Vs} {i : Nat} (hi : i ≤ 300) (h : VP l i) : Mains l ∧ (∀ v ∈ l, -1000000 ≤ v.ver ∧ v.ver < 1000000) ∧ l.length < 100000 := by
  obtain ⟨_, h2, h3, h4⟩ := h
  exact ⟨h2, fun v hv => by have := h3 v hv; omega, by omega⟩
theorem VP.snoc {l : List Vs} {i : Nat} {w : Vs} (h : VP l i) (hg : gtB w.rev (modS l) = true) (hv : 0 ≤ w.ver ∧ w.ver ≤ (i : Int) + 2) : VP (l ++ [w]) (i + 1) := by
  obtain ⟨h1, h2, h3, h4⟩ := h
  refine ⟨by simp, ?_, ?_, by simp; omega⟩
  · rcases List.eq_nil_or_concat l with rfl | ⟨l0, u, rfl⟩
    · exact absurd rfl h1
    · rw [List.concat_eq_append] at *
      rw [modS_snoc] at hg
      have hle : u.rev.1 ≤ w.rev.1 := by
        unfold gtB at hg
        simp at hg
        omega
      unfold Mains at h2 ⊢
      rw [List.map_append, List.pairwise_append]
      refine ⟨h2, by simp, ?_⟩
      intro a ha b hb
      simp at hb
      subst hb
      rw [List.map_append, List.pairwise_append] at h2
      rw [List.map_append] at ha
      rcases List.mem_append.1 ha with ha | ha
      · exact Int.le_trans (h2.2.2 a ha u.rev (by simp)) hle
      · simp at ha; subst ha; exact hle
  · intro v hv'
    rcases List.mem_append.1 hv' with h | h
    · have := h3 v h; push_cast; omega
    · simp at h; subst h; push_cast; omega
theorem VP.sub {l m : List Vs} {i : Nat} (h : VP l i) (hm : m ≠ []) (hs : m.Sublist l) : VP m (i + 1) := by
  obtain ⟨h1, h2, h3, h4⟩ := h
  refine ⟨hm, List.Pairwise.sublist (hs.map _) h2, fun v hv => ?_, by have := hs.length_le; omega⟩
  have := h3 v (hs.subset hv)
  push_cast; omega
theorem VP.last {l : List Vs} {i : Nat} (h : VP l i) : ∃ v, l.getLast? = some v ∧ 0 ≤ v.ver ∧ v.ver ≤ (i : Int) + 1 := by
  obtain ⟨h1, h2, h3, h4⟩ := h
  refine ⟨l.getLast h1, List.getLast?_eq_some_getLast h1, h3 _ (List.getLast_mem h1)⟩
theorem VP.step {l m : List Vs} {i : Nat} {o : KO} {a : An} {f : Bool} (h : VP l i) (h1 : kyOne l f o = some (m, a)) : VP m (i + 1) := by
  unfold kyOne at h1
  split at h1
  · cases h1
  split at h1
  · cases h1
  split at h1
  · cases h1
  obtain ⟨u, hu, hu1, hu2⟩ := h.last
  have key : ∀ m b, kyDo l o = some (m, b) → m ≠ [] → VP m (i + 1) := by
    intro m b hb hm
    unfold kyDo at hb
    split at hb
    · split at hb
      · rename_i hg
        cases hb
        unfold writtenS
        rw [hu]
        dsimp only
        split
        · exact h.snoc hg ⟨by dsimp only; omega, by dsimp only; omega⟩
        · exact h.snoc hg ⟨by dsimp only; omega, by dsimp only; omega⟩
      · cases hb
    split at hb
    · split at hb
      · split at hb
        · rename_i hg
          cases hb
          unfold endedS
          rw [hu]
          exact h.snoc hg ⟨by dsimp only; omega, by dsimp only; omega⟩
        · cases hb
      · cases hb; exact h.sub hm (List.Sublist.refl _)
    split at hb
    · cases hb; exact h.sub hm (List.Sublist.refl _)
    split at hb
    · cases hb; exact h.sub hm (List.Sublist.refl _)
    split at hb
    · cases hb; exact h.sub hm compS_sub
    split at hb
    · cases hb; exact h.sub hm (List.Sublist.refl _)
    · cases hb; exact h.sub hm (List.Sublist.refl _)
  cases hd : kyDo l o with
  | none => rw [hd] at h1; cases h1
  | some mb =>
    obtain ⟨m', b⟩ := mb
    rw [hd] at h1
    dsimp only at h1
    split at h1
    · cases h1
    · rename_i hm
      cases h1
      exact key _ b hd hm
abbrev gone1 (rev : Rv) : Vs := ⟨rev, z0, 1, true⟩
theorem vp_gone {rev : Rv} : VP [gone1 rev] 0 := ⟨by simp, List.pairwise_singleton _ _, by intro v hv; simp at hv; subst hv; exact ⟨by show (0 : Int) ≤ 1; omega, by show (1 : Int) ≤ _; omega⟩, by simp⟩
theorem versG_gone {rev : Rv} : versG [(1, (0, 0), [rev]), g0] = [gone1 rev] := by
  simp [versG, lifeV, g0, z0]
theorem inv_gone {rev : Rv} (h : ixRev rev = true) : Inv rev [(1, (0, 0), [rev]), g0] 2 := by
  unfold ixRev at h
  simp at h
  refine ⟨by simp, ⟨by simp, List.pairwise_singleton _ _, ?_, List.Pairwise.nil⟩, ?_, ?_, ?_, by rw [versG_gone]; simp, by rw [versG_gone]; rfl, by simp [g0], by simp, ?_⟩
  · intro x hx k hk y hy
    simp at hk; subst hk; simp [g0] at hy
  · intro g hg hn
    simp at hg; exact hg.symm
  · intro g hg x hx
    simp at hg
    rcases hg with rfl | rfl
    · simp at hx; subst hx; exact h
    · simp [g0] at hx
  · intro i g hg hn
    cases i with
    | zero => simp at hg; subst hg; simp [g0] at hn
    | succ i => simp at hg
  · intro g hg
    simp at hg
    rcases hg with rfl | rfl
    · exact ⟨by show (0 : Int) ≤ 1; omega, by show (1 : Int) ≤ _; omega⟩
    · exact ⟨by decide, by decide⟩
def kyFrom (l : List Vs) (ops : List KO) : Option (List Vs × List An) := if ops.length > 300 then none else kyRun l true ops
section
variable {H0 : Heap} {L : List HP} {s : Option Addr} {sc : Nat} {ops : List KO}
theorem life_from [O : OldAt L H0] [R0 : RowsC H0 s KO.cells 7 ops] {H : Heap} {l : List Vs} {p0 : Option Addr} {n c0 : Nat} (h0 : VP l 0) (hn : l.length = n) (S : Sat H (sl vC 46 6 p0 n c0 l :: L)) : CallsH Try.prog 7 ⟨[.slice p0 n c0, .slice s ops.length sc]⟩ H (fun e H1 => match kyFrom l ops with
    | none => e = .returned failV ∧ Sat H1 L
    | some (l', aa) => ∃ p' c' q k xs, e = .returned (.tuple ⟨[.slice p' l'.length c', .slice q xs.length k, .bool true]⟩) ∧ xs.map KA.an = aa ∧ Sat H1 (sl vC 46 6 p' l'.length c' l' :: kaL q xs.length k xs L)) := by
  subst hn
  refine F7.calls ?_
  unfold F7.go
  refine iteB_i (fun h => ?_) (fun h => ?_)
  · have h := of_decide_eq_true h
    have e : kyFrom l ops = none := by unfold kyFrom; rw [if_pos (by omega)]
    rw [e]
    exact ⟨rfl, S.to (.drop .refl)⟩
  · have h := of_decide_eq_false h
    have e : kyFrom l ops = kyRun l true ops := by unfold kyFrom; rw [if_neg (by omega)]
    rw [e]
    have S1 : Sat H (star (bigs kaP 0 []) :: sl vC 46 6 p0 l.length c0 l :: L) := S.to (.star (by simp only [bigs, List.nil_append]; exact .refl))
    have S3 : Sat H (sl KA.cells 42 10 none 0 0 [] :: star (bigs kaP 0 []) :: sl vC 46 6 p0 l.length c0 l :: L) := S1.to (.slNil .refl)
    have S2 : Sat H (lst p0 c0 l none 0 [] L) := S3.to Fits.out
    refine GoL.mono (life_loop (P := fun l i => VP l i ∧ i ≤ 300) (by omega) (fun l i h => h.1.ok h.2) (fun l i o m a hi hp h1 => ⟨hp.1.step h1, by omega⟩) ops.length 0 l p0 none c0 0 [] H (by omega) rfl ⟨h0, by omega⟩ S2) ?_
    intro e H1 h1
    unfold lifePost at h1
    rw [List.drop_zero] at h1
    exact h1
end
end Go.Proofs.Ytpjnmdeeoafclaa

set_option linter.unusedVariables false
set_option linter.unnecessarySimpa false
set_option linter.unusedSimpArgs false
namespace Go.Proofs.Ytpjnmdeeoafclaa
open Go Go.Den Go.Proofs
abbrev endOp (rev : Rv) : KO := ⟨4, rev, z0, 0, 0⟩
theorem end_pre {md rev : Rv} {ops : List KO} (h : KPres rev [(1, (0, 0), [rev]), g0] ops) : KPres md [] (endOp rev :: ops) := by
  refine ⟨⟨⟨by simp, by simp⟩, ⟨by show 2 < _; omega, ?_⟩, fun h => by simp at h, fun h => by simp at h, fun _ => rfl, fun h => by simp at h⟩, h⟩
  intro x hx
  have hx : x ∈ [(1, (0, 0), [rev]), g0] := hx
  simp at hx
  rcases hx with rfl | rfl
  · exact ⟨⟨by show (0:Int) ≤ 1; omega, by show (1:Int) < _; omega⟩, by simp⟩
  · exact ⟨by decide, by simp [g0]⟩
theorem restoresEnd_ok {H : Heap} {key : ByteArray} {rev : Rv} {s : Option Addr} {c : Nat} {ops : List KO} (hR : RowsAt KO.cells 7 H s ops) : CallsH Try.prog 5 ⟨[.string key, .agg ⟨[.int .i64 rev.1, .int .i64 rev.2]⟩, .slice s ops.length c]⟩ H (Gives (.bool true) H) := by
  have R0 : RowsC H s KO.cells 7 ops := ⟨hR⟩
  have S := Sat.start H
  refine F5.calls ?_
  unfold F5.go
  (repeat (first | (refine Step.go ?_; intros) | refine iteB_t (by decide) ?_ | refine iteB_f (by decide) ?_ | (refine Duo.mk (by first | omega | exact rfl | decide) ?_; intros) | (refine Duo.mk (Clo.mk (by kernel_rfl)) ?_; intros)))
  rename_i rb H1 S1
  refine iteB_i (fun h => ⟨rfl, Sat.grown⟩) (fun hk => ?_)
  refine iteB_i (fun h => ⟨rfl, Sat.grown⟩) (fun h => ?_)
  have hk := of_decide_eq_false hk
  refine F5.L0_step ?_
  unfold F5.L0n
  (repeat (first | (refine Step.go ?_; intros) | refine iteB_t (by decide) ?_ | refine iteB_f (by decide) ?_ | (refine Duo.mk (by first | omega | exact rfl | decide) ?_; intros) | (refine Duo.mk (Clo.mk (by kernel_rfl)) ?_; intros)))
  rename_i vb H2 S2
  have S3 : Sat H2 (sl vC 46 6 (some ⟨vb, 0, none⟩) 1 1 [gone1 rev] :: pt rb (.cells ⟨[.int .i64 rev.1, .int .i64 rev.2]⟩ 31) :: [old H]) := S2.to (Ent.slClose (f := vC) (pre := []) (xs := [gone1 rev]) (sp := []) rfl (by intro x hx; simp at hx; subst hx; rfl) (Nat.le_refl _) rfl (by simp))
  refine call_of (life_from (H0 := H) vp_gone rfl S3) ?_
  intro e H3 he
  cases hl : kyFrom [gone1 rev] ops with
  | none =>
    rw [hl] at he
    obtain ⟨rfl, S4⟩ := he
    (repeat (first | (refine Step.go ?_; intros) | refine iteB_t (by decide) ?_ | refine iteB_f (by decide) ?_ | (refine Duo.mk (by first | omega | exact rfl | decide) ?_; intros) | (refine Duo.mk (Clo.mk (by kernel_rfl)) ?_; intros)))
    refine gives_i S4 (live_ok H3) ?_
    intro H4 E4 S5
    (repeat (first | (refine Step.go ?_; intros) | refine iteB_t (by decide) ?_ | refine iteB_f (by decide) ?_ | (refine Duo.mk (by first | omega | exact rfl | decide) ?_; intros) | (refine Duo.mk (Clo.mk (by kernel_rfl)) ?_; intros)))
    exact ⟨rfl, Sat.grown⟩
  | some la =>
    obtain ⟨l', aa⟩ := la
    rw [hl] at he
    obtain ⟨p', c', q, k, xs, rfl, hxs, S4⟩ := he
    have hn : ops.length ≤ 300 := by
      unfold kyFrom at hl
      split at hl
      · cases hl
      · omega
    have hr : kyRun [gone1 rev] true ops = some (l', aa) := by
      unfold kyFrom at hl
      rwa [if_neg (by omega)] at hl
    (repeat (first | (refine Step.go ?_; intros) | refine iteB_t (by decide) ?_ | refine iteB_f (by decide) ?_ | (refine Duo.mk (by first | omega | exact rfl | decide) ?_; intros) | (refine Duo.mk (Clo.mk (by kernel_rfl)) ?_; intros)))
    refine gives_i S4 (sIx (a := rev)) ?_
    intro H4 E4 S5
    (repeat (first | (refine Step.go ?_; intros) | refine iteB_t (by decide) ?_ | refine iteB_f (by decide) ?_ | (refine Duo.mk (by first | omega | exact rfl | decide) ?_; intros) | (refine Duo.mk (Clo.mk (by kernel_rfl)) ?_; intros)))
    refine iteB_i (fun h2 => ?_) (fun h2 => ?_)
    · refine gives_i S5 (live_ok H4) ?_
      intro H5 E5 S6
      (repeat (first | (refine Step.go ?_; intros) | refine iteB_t (by decide) ?_ | refine iteB_f (by decide) ?_ | (refine Duo.mk (by first | omega | exact rfl | decide) ?_; intros) | (refine Duo.mk (Clo.mk (by kernel_rfl)) ?_; intros)))
      exact ⟨rfl, Sat.grown⟩
    have h2 : ixRev rev = true := by simpa using h2
    rw [← versG_gone] at hr
    obtain ⟨k1, k2, k3, _⟩ := run_law (inv_gone h2) (by omega) hr
    refine F5.L1_step ?_
    unfold F5.L1n
    (repeat (first | (refine Step.go ?_; intros) | refine iteB_t (by decide) ?_ | refine iteB_f (by decide) ?_ | (refine Duo.mk (by first | omega | exact rfl | decide) ?_; intros) | (refine Duo.mk (Clo.mk (by kernel_rfl)) ?_; intros)))
    rename_i ob H5 S6
    have E5 : ExtH H H5 := Sat.grown
    have S7 : Sat H5 (sl KO.cells 39 7 (some ⟨ob, 0, none⟩) 1 1 [endOp rev] :: (sl vC 46 6 p' l'.length c' l' :: kaL q xs.length k xs [pt rb (.cells ⟨[.int .i64 rev.1, .int .i64 rev.2]⟩ 31), old H])) := S6.to (Ent.slClose (f := KO.cells) (pre := []) (xs := [endOp rev]) (sp := []) rfl (by intro x hx; simp at hx; subst hx; rfl) (Nat.le_refl _) rfl (by simp))
    have hkc : ∀ y : KO, ∀ v ∈ y.cells, isCell v = true := by intro y v hv; simp [KO.cells] at hv; rcases hv with rfl | rfl | rfl | rfl | rfl | rfl | rfl <;> rfl
    refine S7.slApp (ys := ops) ((R0.out.ext E5).cells (fun _ => rfl)) rfl (fun _ _ => rfl) (fun v hv => ?_) rfl (by decide) (by omega) ?_
    · obtain ⟨y, _, hv⟩ := List.mem_flatMap.1 hv
      exact hkc y v hv
    intro q2 c2 H6 S8
    have RO : RowsAt KO.cells 7 H6 q2 (endOp rev :: ops) := S8.rowsAt (List.mem_cons_self ..)
    have E6 : ExtH H H6 := Sat.grown
    have hG : GsAt H6 none [] := ⟨.inl rfl, fun x hx => by cases hx⟩
    have h1 : 1 + ops.length = (endOp rev :: ops).length := by rw [List.length_cons, Nat.add_comm]
    rw [h1] at S8 ⊢
    refine grow_i S8 (key_grow (md := (0, 0)) (X := []) (pc := 0) (ops := endOp rev :: ops) (by simp; omega) hG (by decide) (fun x hx => by cases hx) RO (end_pre k1) (by omega)) ?_
    rintro ⟨⟨⟨gq, gk⟩, gs⟩, hgs⟩ H7 E7 S9
    dsimp only at hgs S9 ⊢
    have hrun : krun (0, 0) (([] : List GX).map gx) (endOp rev :: ops) = kop (0, 0) [] (endOp rev) :: aa := by
      show _ :: krun _ _ ops = _
      rw [← k2]; rfl
    have hgl : (krun (0, 0) (([] : List GX).map gx) (endOp rev :: ops)).length = gs.length := by rw [← hgs, List.length_map]
    rw [hgl] at S9 ⊢
    rw [hrun] at hgs
    have hkl : aa.length = ops.length := by
      have : ∀ (os : List KO) (md : Rv) (G : List Gn), (krun md G os).length = os.length := by
        intro os
        induction os with
        | nil => intro _ _; rfl
        | cons o os ih => intro md G; show (_ :: _).length = _; rw [List.length_cons, ih]; rfl
      rw [← k2]; exact this _ _ _
    have hgn : gs.length = ops.length + 1 := by have := congrArg List.length hgs; rw [List.length_map, List.length_cons] at this; omega
    obtain ⟨x0, ys, rfl⟩ : ∃ x0 ys, gs = x0 :: ys := by
      cases gs with
      | nil => simp at hgn
      | cons x0 ys => exact ⟨x0, ys, rfl⟩
    simp only [List.map_cons, List.cons.injEq] at hgs
    simp only [List.cons_append, List.nil_append] at S9 ⊢
    (repeat (first | (refine Step.go ?_; intros) | refine iteB_t (by decide) ?_ | refine iteB_f (by decide) ?_ | (refine Duo.mk (by first | omega | exact rfl | decide) ?_; intros) | (refine Duo.mk (Clo.mk (by kernel_rfl)) ?_; intros)))
    refine iteB_t (by rw [hgn, wr (by omega) (by omega)]; simp) ?_
    (repeat (first | (refine Step.go ?_; intros) | refine iteB_t (by decide) ?_ | refine iteB_f (by decide) ?_ | (refine Duo.mk (by first | omega | exact rfl | decide) ?_; intros) | (refine Duo.mk (Clo.mk (by kernel_rfl)) ?_; intros)))
    have ka1 := kaAt_of (L := sl KO.cells 39 7 q2 (endOp rev :: ops).length c2 (endOp rev :: ops) :: sl vC 46 6 p' l'.length c' l' :: kaL q xs.length k xs [pt rb (.cells ⟨[.int .i64 rev.1, .int .i64 rev.2]⟩ 31), old H]) S9
    have S10 : Sat H7 (kaL q xs.length k xs (kaL gq (x0 :: ys).length gk (x0 :: ys) [sl KO.cells 39 7 q2 (endOp rev :: ops).length c2 (endOp rev :: ops), sl vC 46 6 p' l'.length c' l', pt rb (.cells ⟨[.int .i64 rev.1, .int .i64 rev.2]⟩ 31), old H])) := S9.to Fits.out
    have ka2 := kaAt_of S10
    have hgk := S9.slLen (List.mem_cons_self ..)
    have S11 := S9.to (Ent.slPart (lo := 1) (hi := (x0 :: ys).length) (mx := gk) (by omega) hgk.2 (Nat.le_refl _) (Nat.le_refl _))
    have ey : (((x0 :: ys).drop 1).take ((x0 :: ys).length - 1)) = ys := by simp
    rw [ey] at S11
    have hy : ys.map KA.an = xs.map KA.an := by rw [hgs.2, hxs]
    have hsm : ∀ x ∈ ys, Small x.an := fun x hx => k3 _ (by rw [← hgs.2]; exact List.mem_map_of_mem hx)
    have hlx : ys.length = xs.length := by have := congrArg List.length hy; simpa using this
    have hyl : (x0 :: ys).length - Int.toNat 1 = ys.length := by simp
    rw [hyl, ← hlx]
    refine gives_i S9 (alike_ok (S11.rowsAt (List.mem_cons_self ..)) ka2.1 (fun x hx => ka1.2 x (List.mem_cons_of_mem _ hx)) ka2.2 hy hsm rfl (by simp at hgn; omega)) ?_
    intro H8 E8 S12
    (repeat (first | (refine Step.go ?_; intros) | refine iteB_t (by decide) ?_ | refine iteB_f (by decide) ?_ | (refine Duo.mk (by first | omega | exact rfl | decide) ?_; intros) | (refine Duo.mk (Clo.mk (by kernel_rfl)) ?_; intros)))
    refine gives_i S12 (live_ok H8) ?_
    intro H9 E9 S13
    (repeat (first | (refine Step.go ?_; intros) | refine iteB_t (by decide) ?_ | refine iteB_f (by decide) ?_ | (refine Duo.mk (by first | omega | exact rfl | decide) ?_; intros) | (refine Duo.mk (Clo.mk (by kernel_rfl)) ?_; intros)))
    exact ⟨rfl, Sat.grown⟩
end Go.Proofs.Ytpjnmdeeoafclaa
