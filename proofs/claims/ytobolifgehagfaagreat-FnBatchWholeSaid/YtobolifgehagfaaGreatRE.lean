/- What functions of this seat do, each proved by a walk; no condition. -/
import Derived.Test.YtobolifgehagfaaGreatRD
set_option linter.unusedVariables false
set_option linter.unusedSimpArgs false
set_option linter.unnecessarySimpa false
namespace Go.Proofs.YtobolifgehagfaaGreat
open Go Go.Den Go.Proofs
/-! What a batch tells. -/
def runB (ps : List PE) : BT := ps.foldl BT.add ⟨[], 0, 0⟩
theorem add_mem {b : BT} {x p : PE} (h : p ∈ (b.add x).evs) : p = x ∨ p ∈ b.evs := by
  unfold BT.add at h
  split at h
  · exact .inr h
  · split at h
    · simp at h; exact h.symm
    · split at h
      · split at h
        · exact .inr h
        · simp at h; exact h.symm
      · simp at h; exact h.symm
theorem add_len {b : BT} {x : PE} : (b.add x).evs.length ≤ b.evs.length + 1 := by
  unfold BT.add
  repeat' split
  all_goals simp
theorem add_revs {b : BT} {x : PE} (h : 0 ≤ b.revs ∧ b.revs ≤ 1001) : 0 ≤ (b.add x).revs ∧ (b.add x).revs ≤ 1001 := by
  unfold BT.add
  repeat' split
  all_goals (try dsimp only); omega
section
variable {H H0 : Heap} {l : List HP}
abbrev zbV (b : BT) (q : Option Addr) (c : Nat) : Value := .agg ⟨[.int .i64 0, .slice q b.evs.length c, .int .i64 b.revs, .int .i64 b.more]⟩
theorem one_ok {g : PH} {ps : List PE} {q : Option Addr} {n c : Nat} (hb : n ≤ 1000000) (hall : ∀ p ∈ ps, EvG g p.1 p.2) (S : Sat H (has g :: sl peC 77 1 q n c ps :: l)) :
    CallsH Tryz.prog 19 ⟨[.slice q n c]⟩ H (fun e H1 => ∃ q' c', e = .returned (zbV (runB ps) q' c') ∧ Sat H1 (sl peC 77 1 q' (runB ps).evs.length c' (runB ps).evs :: has g :: sl peC 77 1 q n c ps :: l)) := by
  have hlen := (Sat.slLen S (List.mem_cons_of_mem _ (List.mem_cons_self ..))).1
  refine F19.calls ?_
  unfold F19.go
  (repeat (first | (refine Step.go ?_; intros) | refine iteB_t (by decide) ?_ | refine iteB_f (by decide) ?_ | (refine Duo.mk (by first | omega | exact rfl | decide) ?_; intros) | (refine Duo.mk (Clo.mk (by kernel_rfl)) ?_; intros)))
  rename_i r0 H1 S1 r1 H2 S2
  have loop : ∀ (k i : Nat) (q' : Option Addr) (c' : Nat) (b : BT) (H : Heap), i + k = n → b = runB (ps.take i) → b.evs.length ≤ i → (0 ≤ b.revs ∧ b.revs ≤ 1001) → (∀ p ∈ b.evs, EvG g p.1 p.2) →
      Sat H (pt r1 (btO b q' c') :: sl peC 77 1 q' b.evs.length c' b.evs :: has g :: pt r0 (.cells ⟨[.int .i64 0, .slice none 0 0, .int .i64 0, .int .i64 0]⟩ 61) :: sl peC 77 1 q n c ps :: l) →
      F19.L0 r0 r1 q n c (n : Nat) (i : Nat) H (fun e H1 => ∃ q' c', e = .returned (zbV (runB ps) q' c') ∧ Sat H1 (sl peC 77 1 q' (runB ps).evs.length c' (runB ps).evs :: has g :: sl peC 77 1 q n c ps :: l)) := by
    intro k
    induction k with
    | zero =>
      intro i q' c' b H hi hb1 hb2 hb3 hb4 S
      obtain rfl : i = n := by omega
      rw [← hlen, List.take_length] at hb1
      subst hb1
      refine F19.L0_step ?_
      unfold F19.L0n
      refine iteB_f (by simp) ?_
      (repeat (first | (refine Step.go ?_; intros) | refine iteB_t (by decide) ?_ | refine iteB_f (by decide) ?_ | (refine Duo.mk (by first | omega | exact rfl | decide) ?_; intros) | (refine Duo.mk (Clo.mk (by kernel_rfl)) ?_; intros)))
      have S9 := ‹Sat _ _›
      refine ⟨q', c', rfl, S9.to ?_⟩
      iterate 3 (apply Ent.pick; (focus (repeat (first | exact Sel.here | apply Sel.there))))
      exact Ent.drop (Ent.drop Ent.refl)
    | succ k ih =>
      intro i q' c' b H hi hb1 hb2 hb3 hb4 S
      obtain ⟨x, hx⟩ : ∃ x, ps[i]? = some x := get_of (by omega)
      have hI := HasI.nat hx
      refine F19.L0_step ?_
      unfold F19.L0n
      refine iteB_t (by simp; omega) ?_
      obtain ⟨ra, oa, rfl⟩ := S.slSome (f := peC) (E := 77) (z := 1) (p := q) (n := n) (c := c) (xs := ps) (List.mem_cons_of_mem _ (List.mem_cons_of_mem _ (List.mem_cons_of_mem _ (List.mem_cons_of_mem _ (List.mem_cons_self ..))))) (by omega)
      (repeat (first | (refine Step.go ?_; intros) | refine iteB_t (by decide) ?_ | refine iteB_f (by decide) ?_ | (refine Duo.mk (by first | omega | exact rfl | decide) ?_; intros) | (refine Duo.mk (Clo.mk (by kernel_rfl)) ?_; intros)))
      refine callD_i (add_ok (x := x) (hall x (List.mem_of_getElem? hx)) (by omega) (by omega) hb4 S) ?_
      rintro _ H1 ⟨rfl, q2, c2, S1⟩
      (repeat (first | (refine Step.go ?_; intros) | refine iteB_t (by decide) ?_ | refine iteB_f (by decide) ?_ | (refine Duo.mk (by first | omega | exact rfl | decide) ?_; intros) | (refine Duo.mk (Clo.mk (by kernel_rfl)) ?_; intros)))
      rw [wr64 (by omega) (by omega), show ((i : Nat) : Int) + 1 = ((i + 1 : Nat) : Int) by omega]
      refine ih (i + 1) q2 c2 (b.add x) H1 (by omega) ?_ (by have := add_len (b := b) (x := x); omega) (add_revs hb3) ?_ S1
      · rw [List.take_add_one, hx, hb1]
        unfold runB
        rw [List.foldl_append]
        rfl
      · intro p hp
        rcases add_mem hp with rfl | hp
        · exact hall _ (List.mem_of_getElem? hx)
        · exact hb4 p hp
  refine loop n 0 none 0 ⟨[], 0, 0⟩ H2 (by omega) rfl (by simp) ⟨by decide, by decide⟩ (fun p hp => by cases hp) (S2.to ?_)
  apply Ent.pick
  · (repeat (first | exact Sel.here | apply Sel.there))
  refine Ent.slNil ?_
  iterate 2 (apply Ent.pick; (focus (repeat (first | exact Sel.here | apply Sel.there))))
  exact Ent.refl
theorem kvOf_ok {g : PH} {x : EV} {kv kb kc vb vc : Nat} {kr vr : List Value} {kf vf : Nat × Nat} (p2 : H[kv]? = some (.cells ⟨[.slice (some (aA kb)) x.key.size kc, .int .i64 x.c, .int .i64 x.m, .int .i64 x.v, .slice (some (aA vb)) x.val.size vc, .int .i64 x.l]⟩ 85))
    (p3 : H[kb]? = some (.cells ⟨bytesOf x.key.data.toList ++ kr⟩ 5 kf)) (p4 : H[vb]? = some (.cells ⟨bytesOf x.val.data.toList ++ vr⟩ 5 vf)) :
    CallsH Tryz.prog 50 ⟨[pA kv]⟩ H (Gives (.agg ⟨[.string x.key, .string x.val, .int .i64 x.c, .int .i64 x.m, .int .i64 x.v, .int .i64 x.l]⟩) H) := by
  have S := Sat.start H
  refine F50.calls ?_
  unfold F50.go
  refine Step.go ?_
  intro r H1 S1
  have E1 : ExtH H H1 := Sat.grown
  have B1 : Blc H1 kv _ := ⟨E1.block_some p2⟩
  clear S
  (repeat (first | (refine Step.go ?_; intros) | refine iteB_t (by decide) ?_ | refine iteB_f (by decide) ?_ | (refine Duo.mk (by first | omega | exact rfl | decide) ?_; intros) | (refine Duo.mk (Clo.mk (by kernel_rfl)) ?_; intros)))
  refine ⟨x.key.data.toList, rfl, cellsAt_block (E1.block_some p3), ?_⟩
  (repeat (first | (refine Step.go ?_; intros) | refine iteB_t (by decide) ?_ | refine iteB_f (by decide) ?_ | (refine Duo.mk (by first | omega | exact rfl | decide) ?_; intros) | (refine Duo.mk (Clo.mk (by kernel_rfl)) ?_; intros)))
  refine ⟨x.val.data.toList, rfl, cellsAt_block (E1.block_some p4), ?_⟩
  (repeat (first | (refine Step.go ?_; intros) | refine iteB_t (by decide) ?_ | refine iteB_f (by decide) ?_ | (refine Duo.mk (by first | omega | exact rfl | decide) ?_; intros) | (refine Duo.mk (Clo.mk (by kernel_rfl)) ?_; intros)))
  exact ⟨rfl, Sat.grown⟩
theorem event_ok {g : PH} {r : Nat} {x : EV} (h : EvG g r x) (hs : PH.sub g (PH.of H)) : CallsH Tryz.prog 32 ⟨[pA r]⟩ H (Gives (.agg ⟨x.cells⟩) H) := by
  obtain ⟨kv, kb, kc, vb, vc, kr, vr, kf, vf, p1, p2, p3, p4⟩ := h.out
  have S := Sat.start H
  refine F32.calls ?_
  unfold F32.go
  refine Step.go ?_
  intro r0 H1 S1
  have E1 : ExtH H H1 := Sat.grown
  clear S
  have B1 : Blc H1 r _ := ⟨E1.block_some (hs _ _ p1)⟩
  (repeat (first | (refine Step.go ?_; intros) | refine iteB_t (by decide) ?_ | refine iteB_f (by decide) ?_ | (refine Duo.mk (by first | omega | exact rfl | decide) ?_; intros) | (refine Duo.mk (Clo.mk (by kernel_rfl)) ?_; intros)))
  refine gives_i S1 (kvOf_ok (g := g) (E1.block_some (hs _ _ p2)) (E1.block_some (hs _ _ p3)) (E1.block_some (hs _ _ p4))) fun H2 E2 S2 => ?_
  clear S1
  (repeat (first | (refine Step.go ?_; intros) | refine iteB_t (by decide) ?_ | refine iteB_f (by decide) ?_ | (refine Duo.mk (by first | omega | exact rfl | decide) ?_; intros) | (refine Duo.mk (Clo.mk (by kernel_rfl)) ?_; intros)))
  have e : ((if x.gone = true then (1 : Int) else 0) == 1) = x.gone := by cases x.gone <;> rfl
  refine ⟨?_, Sat.grown⟩
  rw [e]
abbrev tdV (id : Int) (q : Option Addr) (n c : Nat) (rv mo : Int) : Value := .agg ⟨[.int .i64 id, .slice q n c, .int .i64 rv, .int .i64 mo]⟩
abbrev tdC (id : Int) (q : Option Addr) (n c : Nat) (rv mo : Int) : List Value := [.int .i64 id, .slice q n c, .int .i64 rv, .int .i64 mo]
theorem told_ok {g : PH} {ps : List PE} {q : Option Addr} {n c : Nat} {id rv mo : Int} (hb : n ≤ 1000000) (hall : ∀ p ∈ ps, EvG g p.1 p.2) (S : Sat H (has g :: sl peC 77 1 q n c ps :: l)) :
    CallsH Tryz.prog 18 ⟨[tdV id q n c rv mo]⟩ H (fun e H1 => ∃ q' c', e = .returned (tdV id q' n c' rv mo) ∧ Sat H1 (sl EV.cells 36 7 q' n c' (ps.map (·.2)) :: has g :: sl peC 77 1 q n c ps :: l)) := by
  have hlen := (Sat.slLen S (List.mem_cons_of_mem _ (List.mem_cons_self ..))).1
  refine F18.calls ?_
  unfold F18.go
  refine Step.go ?_
  intro r0 H1 S1
  refine Step.go ?_
  intro r1 H2 S2
  refine Step.go ?_
  refine Step.go ?_
  refine Step.go ?_
  refine Step.go ?_
  intro r2 H3 S3
  clear S S1 S2
  (repeat (first | (refine Step.go ?_; intros) | refine iteB_t (by decide) ?_ | refine iteB_f (by decide) ?_ | (refine Duo.mk (by first | omega | exact rfl | decide) ?_; intros) | (refine Duo.mk (Clo.mk (by kernel_rfl)) ?_; intros)))
  have S4 := ‹Sat _ _›
  have loop : ∀ (k i : Nat) (q' : Option Addr) (c' : Nat) (H : Heap), i + k = n →
      Sat H (sl EV.cells 36 7 q' i c' ((ps.take i).map (·.2)) :: pt r2 (.cells ⟨tdC id q' i c' rv mo⟩ 39) :: pt r1 (.cells ⟨tdC 0 none 0 0 0 0⟩ 39) :: pt r0 (.cells ⟨tdC id q n c rv mo⟩ 61) :: has g :: sl peC 77 1 q n c ps :: l) →
      F18.L0 r0 r1 r2 (i : Nat) H (fun e H1 => ∃ q' c', e = .returned (tdV id q' n c' rv mo) ∧ Sat H1 (sl EV.cells 36 7 q' n c' (ps.map (·.2)) :: has g :: sl peC 77 1 q n c ps :: l)) := by
    intro k
    induction k with
    | zero =>
      intro i q' c' H hi S
      obtain rfl : i = n := by omega
      rw [← hlen, List.take_length] at S
      rw [hlen] at S
      refine F18.L0_step ?_
      unfold F18.L0n
      (repeat (first | (refine Step.go ?_; intros) | refine iteB_t (by decide) ?_ | refine iteB_f (by decide) ?_ | (refine Duo.mk (by first | omega | exact rfl | decide) ?_; intros) | (refine Duo.mk (Clo.mk (by kernel_rfl)) ?_; intros)))
      refine iteB_f (by simp) ?_
      (repeat (first | (refine Step.go ?_; intros) | refine iteB_t (by decide) ?_ | refine iteB_f (by decide) ?_ | (refine Duo.mk (by first | omega | exact rfl | decide) ?_; intros) | (refine Duo.mk (Clo.mk (by kernel_rfl)) ?_; intros)))
      have S9 := ‹Sat _ _›
      refine ⟨q', c', rfl, S9.to ?_⟩
      iterate 3 (apply Ent.pick; (focus (repeat (first | exact Sel.here | apply Sel.there))))
      exact Ent.drop (Ent.drop (Ent.drop Ent.refl))
    | succ k ih =>
      intro i q' c' H hi S
      obtain ⟨x, hx⟩ : ∃ x, ps[i]? = some x := get_of (by omega)
      have hI := HasI.nat hx
      have hs : PH.sub g (PH.of H) := HasG.sub (l := sl EV.cells 36 7 q' i c' ((ps.take i).map (·.2)) :: pt r2 (.cells ⟨tdC id q' i c' rv mo⟩ 39) :: pt r1 (.cells ⟨tdC 0 none 0 0 0 0⟩ 39) :: pt r0 (.cells ⟨tdC id q n c rv mo⟩ 61) :: has g :: sl peC 77 1 q n c ps :: l) inferInstance S
      obtain ⟨ra, oa, rfl⟩ := S.slSome (f := peC) (E := 77) (z := 1) (p := q) (n := n) (c := c) (xs := ps) (List.mem_cons_of_mem _ (List.mem_cons_of_mem _ (List.mem_cons_of_mem _ (List.mem_cons_of_mem _ (List.mem_cons_of_mem _ (List.mem_cons_self ..)))))) (by omega)
      refine F18.L0_step ?_
      unfold F18.L0n
      (repeat (first | (refine Step.go ?_; intros) | refine iteB_t (by decide) ?_ | refine iteB_f (by decide) ?_ | (refine Duo.mk (by first | omega | exact rfl | decide) ?_; intros) | (refine Duo.mk (Clo.mk (by kernel_rfl)) ?_; intros)))
      refine iteB_t (by simp; omega) ?_
      (repeat (first | (refine Step.go ?_; intros) | refine iteB_t (by decide) ?_ | refine iteB_f (by decide) ?_ | (refine Duo.mk (by first | omega | exact rfl | decide) ?_; intros) | (refine Duo.mk (Clo.mk (by kernel_rfl)) ?_; intros)))
      refine gives_i S (event_ok (hall x (List.mem_of_getElem? hx)) hs) fun H1 E1 S1 => ?_
      clear S
      (repeat (first | (refine Step.go ?_; intros) | refine iteB_t (by decide) ?_ | refine iteB_f (by decide) ?_ | (refine Duo.mk (by first | omega | exact rfl | decide) ?_; intros) | (refine Duo.mk (Clo.mk (by kernel_rfl)) ?_; intros)))
      rename_i r3 H2 S2
      have S3 := S2.bring (c := sl EV.cells 36 7 q' i c' ((ps.take i).map (·.2))) (by (repeat (first | exact Sel.here | apply Sel.there)))
      refine S3.slApp (ys := [x.2]) (q := some ⟨r3, 0, none⟩) (d := 1) ?_ rfl (by simp) (by simp [isCell]) rfl (by decide) (by omega) fun q2 c2 H3 S4 => ?_
      · simp only [List.flatMap_cons, List.flatMap_nil, List.append_nil]
        exact cellsAt_one (S2.at_ (List.mem_cons_self ..))
      clear S1 S2 S3
      (repeat (first | (refine Step.go ?_; intros) | refine iteB_t (by decide) ?_ | refine iteB_f (by decide) ?_ | (refine Duo.mk (by first | omega | exact rfl | decide) ?_; intros) | (refine Duo.mk (Clo.mk (by kernel_rfl)) ?_; intros)))
      have S5 := ‹Sat _ _›
      rw [wr64 (by omega) (by omega), show ((i : Nat) : Int) + 1 = ((i + 1 : Nat) : Int) by omega]
      have e : (ps.take i).map (·.2) ++ [x.2] = (ps.take (i + 1)).map (·.2) := by
        rw [List.take_add_one, hx, List.map_append]; rfl
      rw [e] at S5
      refine ih (i + 1) q2 c2 _ (by omega) (S5.to ?_)
      iterate 6 (apply Ent.pick; (focus (repeat (first | exact Sel.here | apply Sel.there))))
      exact Ent.drop Ent.refl
  refine loop n 0 none 0 _ (by omega) (S4.to (Ent.slNil ?_))
  iterate 5 (apply Ent.pick; (focus (repeat (first | exact Sel.here | apply Sel.there))))
  exact Ent.refl
theorem Batch_ok {xs : List EV} {p : Option Addr} {n c : Nat} (hR : RowsAt EV.cells 7 H0 p xs) (hn : xs.length = n) (hb : n ≤ 1000000) (hok : ∀ x ∈ xs, EvOk x) :
    CallsH Tryz.prog 10 ⟨[.slice p n c]⟩ H0 (fun e H1 => ∃ q' c', ∃ ps : List PE, ps.map (·.2) = xs ∧ e = .returned (tdV 0 q' (runB ps).evs.length c' (runB ps).revs (runB ps).more) ∧ ExtH H0 H1 ∧ Sat H1 [sl EV.cells 36 7 q' (runB ps).evs.length c' ((runB ps).evs.map (·.2)), old H0]) := by
  have S := Sat.start H0
  refine F10.calls ?_
  unfold F10.go
  (repeat (first | (refine Step.go ?_; intros) | refine iteB_t (by decide) ?_ | refine iteB_f (by decide) ?_ | (refine Duo.mk (by first | omega | exact rfl | decide) ?_; intros) | (refine Duo.mk (Clo.mk (by kernel_rfl)) ?_; intros)))
  rename_i r0 H1 S1
  have E1 : ExtH H0 H1 := Sat.grown
  refine callD_i (eventsIn_ok (hR.ext E1) hn (by omega) hok) ?_
  rintro _ H2 ⟨q, qc, ps, g, rfl, hps, hall, S2⟩
  have hlen : ps.length = n := by rw [← hn, ← hps, List.length_map]
  have S3 := Sat.onto (m := [has g, sl peC 77 1 q n qc ps]) S2 S1
  simp only [List.cons_append, List.nil_append] at S3
  clear S S1 S2
  (repeat (first | (refine Step.go ?_; intros) | refine iteB_t (by decide) ?_ | refine iteB_f (by decide) ?_ | (refine Duo.mk (by first | omega | exact rfl | decide) ?_; intros) | (refine Duo.mk (Clo.mk (by kernel_rfl)) ?_; intros)))
  refine callD_i (one_ok hb hall S3) ?_
  rintro _ H3 ⟨q1, c1, rfl, S4⟩
  clear S3
  have hmem : ∀ (l : List PE) (b : BT), (∀ p ∈ b.evs, EvG g p.1 p.2) → (∀ p ∈ l, EvG g p.1 p.2) → ∀ p ∈ (l.foldl BT.add b).evs, EvG g p.1 p.2 := by
    intro l
    induction l with
    | nil => intro b hb _; exact hb
    | cons x l ih =>
      intro b hb hl
      refine ih _ (fun p hp => ?_) fun p hp => hl p (List.mem_cons_of_mem _ hp)
      rcases add_mem hp with rfl | hp
      · exact hl _ (List.mem_cons_self ..)
      · exact hb p hp
  have hlen2 : ∀ (l : List PE) (b : BT), (l.foldl BT.add b).evs.length ≤ b.evs.length + l.length := by
    intro l
    induction l with
    | nil => intro b; simp
    | cons x l ih =>
      intro b
      have h1 := ih (b.add x)
      have h2 := add_len (b := b) (x := x)
      simp only [List.foldl_cons, List.length_cons]
      omega
  have hm := hmem ps ⟨[], 0, 0⟩ (fun p hp => by cases hp) hall
  have hl := hlen2 ps ⟨[], 0, 0⟩
  have hl : (runB ps).evs.length ≤ 1000000 := by
    have : (runB ps).evs.length ≤ 0 + ps.length := hl
    omega
  (repeat (first | (refine Step.go ?_; intros) | refine iteB_t (by decide) ?_ | refine iteB_f (by decide) ?_ | (refine Duo.mk (by first | omega | exact rfl | decide) ?_; intros) | (refine Duo.mk (Clo.mk (by kernel_rfl)) ?_; intros)))
  refine callD_i (told_ok (l := sl peC 77 1 q n qc ps :: pt r0 (.cells ⟨tdC 0 none 0 0 0 0⟩ 39) :: [old H0]) hl hm (S4.to ?_)) ?_
  · iterate 5 (apply Ent.pick; (focus (repeat (first | exact Sel.here | apply Sel.there))))
    exact Ent.refl
  rintro _ H5 ⟨q2, c2, rfl, S5⟩
  clear S4
  (repeat (first | (refine Step.go ?_; intros) | refine iteB_t (by decide) ?_ | refine iteB_f (by decide) ?_ | (refine Duo.mk (by first | omega | exact rfl | decide) ?_; intros) | (refine Duo.mk (Clo.mk (by kernel_rfl)) ?_; intros)))
  have S9 := ‹Sat _ _›
  refine ⟨q2, c2, ps, hps, rfl, Sat.grown, S9.to ?_⟩
  iterate 2 (apply Ent.pick; (focus (repeat (first | exact Sel.here | apply Sel.there))))
  exact Ent.nil
end
end Go.Proofs.YtobolifgehagfaaGreat
