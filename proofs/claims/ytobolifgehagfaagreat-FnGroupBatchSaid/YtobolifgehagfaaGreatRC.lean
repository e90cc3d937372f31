/- What functions of this seat do, each proved by a walk; no condition. -/
import Derived.Test.YtobolifgehagfaaGreatRA
import Derived.Test.YtobolifgehagfaaGreatDenZC
set_option linter.unusedVariables false
set_option linter.unusedSimpArgs false
set_option linter.unnecessarySimpa false
namespace Go.Proofs.YtobolifgehagfaaGreat
open Go Go.Den Go.Proofs
/-! Events of a group. -/
structure EV where
  gone : Bool
  key : ByteArray
  val : ByteArray
  c : Int
  m : Int
  v : Int
  l : Int
abbrev EV.cells (x : EV) : List Value := [.bool x.gone, .string x.key, .string x.val, .int .i64 x.c, .int .i64 x.m, .int .i64 x.v, .int .i64 x.l]
structure EvOk (x : EV) : Prop where
  key : x.key.size ≤ 2147483647
  val : x.val.size ≤ 2147483647
abbrev PE := Nat × EV
abbrev peC (p : PE) : List Value := [pA p.1]
section
variable {H H0 : Heap} {l : List HP}
theorem fit19 (x : EV) : CallsH Tryz.prog 13 ⟨[.agg ⟨x.cells⟩]⟩ H (fun e' H1 => ExtH H H1 ∧ ∃ r, e' = .returned (.bool r) ∧ (r = true → EvOk x)) := by
  have S := Sat.start H
  refine F13.calls ?_
  unfold F13.go
  (repeat (first | (refine Step.go ?_; intros) | refine iteB_t (by decide) ?_ | refine iteB_f (by decide) ?_ | (refine Duo.mk (by first | omega | exact rfl | decide) ?_; intros) | (refine Duo.mk (Clo.mk (by kernel_rfl)) ?_; intros)))
  rename_i r H1 S1
  have inner : CallsH Tryz.prog 21 ⟨[.agg ⟨[.string x.key, .string x.val, .int .i64 x.c, .int .i64 x.m, .int .i64 x.v, .int .i64 x.l]⟩]⟩ H1 (fun e' H2 => ExtH H1 H2 ∧ ∃ r, e' = .returned (.bool r) ∧ (r = true → EvOk x)) := by
    have S := Sat.start H1
    clear S1
    refine F21.calls ?_
    unfold F21.go
    (repeat (first | (refine Step.go ?_; intros) | refine iteB_t (by decide) ?_ | refine iteB_f (by decide) ?_ | (refine Duo.mk (by first | omega | exact rfl | decide) ?_; intros) | (refine Duo.mk (Clo.mk (by kernel_rfl)) ?_; intros)))
    refine iteB_i (fun h => ⟨Sat.grown, _, rfl, fun h => by cases h⟩) (fun h1 => ?_)
    (repeat (first | (refine Step.go ?_; intros) | refine iteB_t (by decide) ?_ | refine iteB_f (by decide) ?_ | (refine Duo.mk (by first | omega | exact rfl | decide) ?_; intros) | (refine Duo.mk (Clo.mk (by kernel_rfl)) ?_; intros)))
    refine iteB_i (fun h => ⟨Sat.grown, _, rfl, fun h => by cases h⟩) (fun h2 => ?_)
    have h1 := of_decide_eq_false h1
    have h2 := of_decide_eq_false h2
    exact ⟨Sat.grown, _, rfl, fun _ => ⟨by omega, by omega⟩⟩
  have E1 : ExtH H H1 := Sat.grown
  refine callD_i inner ?_
  rintro _ H2 ⟨E2, b, rfl, hb⟩
  (repeat (first | (refine Step.go ?_; intros) | refine iteB_t (by decide) ?_ | refine iteB_f (by decide) ?_ | (refine Duo.mk (by first | omega | exact rfl | decide) ?_; intros) | (refine Duo.mk (Clo.mk (by kernel_rfl)) ?_; intros)))
  refine iteB_i (fun h => ⟨E1.trans E2, _, rfl, fun h => by cases h⟩) (fun h => ⟨E1.trans E2, _, rfl, fun _ => hb (by simpa using h)⟩)
theorem fit18 {xs : List EV} {p : Option Addr} {n c : Nat} (hR : RowsAt EV.cells 7 H0 p xs) (hn : xs.length = n) : CallsH Tryz.prog 7 ⟨[.slice p n c]⟩ H0 (fun e' H1 => ExtH H0 H1 ∧ ∃ r, e' = .returned (.bool r) ∧ (r = true → n ≤ 2147483647 ∧ ∀ x ∈ xs, EvOk x)) := by
  refine F7.calls ?_
  unfold F7.go
  refine iteB_i (fun h => ⟨ExtH.refl _, _, rfl, fun h => by cases h⟩) (fun h => ?_)
  have hnb : n ≤ 2147483647 := by have := of_decide_eq_false h; omega
  have R0 : RowsC H0 p EV.cells 7 xs := ⟨hR⟩
  have loop : ∀ (k i : Nat) (H : Heap), i + k = n → ExtH H0 H → (∀ j x, xs[j]? = some x → j < i → EvOk x) → F7.L0 p n c (n : Nat) (i : Nat) H (fun e' H1 => ExtH H0 H1 ∧ ∃ r, e' = .returned (.bool r) ∧ (r = true → n ≤ 2147483647 ∧ ∀ x ∈ xs, EvOk x)) := by
    intro k
    induction k with
    | zero =>
      intro i H hk E hi
      refine F7.L0_step ?_
      unfold F7.L0n
      refine iteB_f (by simp; omega) ?_
      refine ⟨E, _, rfl, fun _ => ⟨hnb, fun x hx => ?_⟩⟩
      obtain ⟨j, hj⟩ := List.getElem?_of_mem hx
      exact hi j x hj (by have := lt_of hj; omega)
    | succ k ih =>
      intro i H hk E hi
      have S := (Sat.start H0).ext E
      obtain ⟨x, hx⟩ : ∃ x, xs[i]? = some x := get_of (by omega)
      have hI := HasI.nat hx
      refine F7.L0_step ?_
      unfold F7.L0n
      refine iteB_t (by simp; omega) ?_
      refine R0.idx hn ⟨by omega, by omega, ?_⟩
      intro a ha
      subst ha
      (repeat (first | (refine Step.go ?_; intros) | refine iteB_t (by decide) ?_ | refine iteB_f (by decide) ?_ | (refine Duo.mk (by first | omega | exact rfl | decide) ?_; intros) | (refine Duo.mk (Clo.mk (by kernel_rfl)) ?_; intros)))
      rename_i H1 S1
      have E1 : ExtH H0 H1 := Sat.grown
      refine callD_i (fit19 x) ?_
      rintro e H2 ⟨E2, r, rfl, hr⟩
      (repeat (first | (refine Step.go ?_; intros) | refine iteB_t (by decide) ?_ | refine iteB_f (by decide) ?_ | (refine Duo.mk (by first | omega | exact rfl | decide) ?_; intros) | (refine Duo.mk (Clo.mk (by kernel_rfl)) ?_; intros)))
      refine iteB_i (fun h => ⟨E1.trans E2, _, rfl, fun h => by cases h⟩) (fun h => ?_)
      have hz := hr (by simpa using h)
      rw [wr64 (by omega) (by omega), show ((i : Nat) : Int) + 1 = ((i + 1 : Nat) : Int) by omega]
      refine ih (i + 1) H2 (by omega) (E1.trans E2) fun j y hj hlt => ?_
      by_cases hji : j = i
      · subst hji; rw [hx] at hj; cases hj; exact hz
      · exact hi j y hj (by omega)
  exact loop n 0 H0 (by omega) (ExtH.refl _) (fun j x _ h => by omega)
/-- An event in a part of memory. -/
structure EvG (g : PH) (r : Nat) (x : EV) : Prop where
  out : ∃ kv kb kc vb vc kr vr kf vf, g r = some (.cells ⟨[.int .i32 (if x.gone then 1 else 0), pA kv, .pointer none]⟩ 88) ∧
    g kv = some (.cells ⟨[.slice (some (aA kb)) x.key.size kc, .int .i64 x.c, .int .i64 x.m, .int .i64 x.v, .slice (some (aA vb)) x.val.size vc, .int .i64 x.l]⟩ 85) ∧
    g kb = some (.cells ⟨bytesOf x.key.data.toList ++ kr⟩ 5 kf) ∧ g vb = some (.cells ⟨bytesOf x.val.data.toList ++ vr⟩ 5 vf)
theorem EvG.mono {g g' : PH} {r : Nat} {x : EV} (h : EvG g r x) (s : PH.sub g g') : EvG g' r x := by
  obtain ⟨kv, kb, kc, vb, vc, kr, vr, kf, vf, h1, h2, h3, h4⟩ := h.out
  exact ⟨kv, kb, kc, vb, vc, kr, vr, kf, vf, s _ _ h1, s _ _ h2, s _ _ h3, s _ _ h4⟩
theorem eventsIn_ok {xs : List EV} {p : Option Addr} {n c : Nat} (hR : RowsAt EV.cells 7 H0 p xs) (hn : xs.length = n) (hb : n ≤ 2147483647) (hok : ∀ x ∈ xs, EvOk x) :
    CallsH Tryz.prog 20 ⟨[.slice p n c]⟩ H0 (fun e H1 => ∃ q qc ps g, e = .returned (.slice q n qc) ∧ ps.map (·.2) = xs ∧ (∀ p ∈ ps, EvG g p.1 p.2) ∧ Sat H1 ([has g, sl peC 77 1 q n qc ps] ++ [old H0])) := by
  refine F20.calls ?_
  unfold F20.go
  have loop : ∀ (kk i : Nat) (q : Option Addr) (qc : Nat) (ps : List PE) (g : PH) (H : Heap), i + kk = n → ps.map (·.2) = xs.take i → (∀ p ∈ ps, EvG g p.1 p.2) → Sat H [has g, sl peC 77 1 q i qc ps, old H0] →
      F20.L0 p n c q i qc (i : Nat) H (fun e H1 => ∃ q qc ps g, e = .returned (.slice q n qc) ∧ ps.map (·.2) = xs ∧ (∀ p ∈ ps, EvG g p.1 p.2) ∧ Sat H1 ([has g, sl peC 77 1 q n qc ps] ++ [old H0])) := by
    intro kk
    induction kk with
    | zero =>
      intro i q qc ps g H hi hps hP S
      obtain rfl : i = n := by omega
      refine F20.L0_step ?_
      unfold F20.L0n
      refine iteB_f (by simp) ?_
      exact ⟨q, qc, ps, g, rfl, by rw [hps, ← hn, List.take_length], hP, S⟩
    | succ kk ih =>
      intro i q qc ps g H hi hps hP S
      obtain ⟨x, hxi⟩ : ∃ x, xs[i]? = some x := get_of (by omega)
      have hI := HasI.nat hxi
      have hk := (hok x (List.mem_of_getElem? hxi)).key
      have hv := (hok x (List.mem_of_getElem? hxi)).val
      have next : ∀ (r4 : Nat) (H1 : Heap), ExtH H H1 → EvG (newOf H H1) r4 x → F20.L1 p n c q i qc (i : Nat) r4 H1 (fun e H1 => ∃ q qc ps g, e = .returned (.slice q n qc) ∧ ps.map (·.2) = xs ∧ (∀ p ∈ ps, EvG g p.1 p.2) ∧ Sat H1 ([has g, sl peC 77 1 q n qc ps] ++ [old H0])) := by
        intro r4 H1 E1 hr
        have S1 := plus_has S E1
        have hr' := hr.mono (sub_plus_r (g := g) S)
        have hsub : PH.sub g (plus g H H1) := sub_plus_l
        generalize plus g H H1 = g' at S1 hr' hsub
        clear S
        refine F20.L1_step ?_
        unfold F20.L1n
        (repeat (first | (refine Step.go ?_; intros) | refine iteB_t (by decide) ?_ | refine iteB_f (by decide) ?_ | (refine Duo.mk (by first | omega | exact rfl | decide) ?_; intros) | (refine Duo.mk (Clo.mk (by kernel_rfl)) ?_; intros)))
        rename_i r2 H2 S2
        have S3 : Sat H2 (sl peC 77 1 q i qc ps :: pt r2 (.cells ⟨[pA r4]⟩ 77) :: has g' :: old H0 :: []) := by
          refine S2.to ?_
          iterate 4 (apply Ent.pick; (focus (repeat (first | exact Sel.here | apply Sel.there))))
          exact Ent.refl
        refine S3.slApp (ys := [(r4, x)]) (q := some ⟨r2, 0, none⟩) (d := 1) ?_ rfl (by simp) (by simp [isCell]) rfl (by decide) (by omega) ?_
        · simp only [List.flatMap_cons, List.flatMap_nil, List.append_nil]
          exact cellsAt_one (S3.at_ (List.mem_cons_of_mem _ (List.mem_cons_self ..)))
        · intro q' c' H4 S4
          rw [wr64 (by omega) (by omega), show ((i : Nat) : Int) + 1 = ((i + 1 : Nat) : Int) by omega]
          refine ih (i + 1) q' c' (ps ++ [(r4, x)]) g' H4 (by omega) (by rw [List.map_append, hps, List.take_add_one, hxi]; rfl) ?_ (S4.to ?_)
          · intro p hp
            rcases List.mem_append.1 hp with hp | hp
            · exact (hP p hp).mono hsub
            · simp at hp; subst hp; exact hr'
          · iterate 3 (apply Ent.pick; (focus (repeat (first | exact Sel.here | apply Sel.there))))
            exact Ent.nil
      have R0 : RowsC H p EV.cells 7 xs := ⟨hR.ext Sat.grown⟩
      refine F20.L0_step ?_
      unfold F20.L0n
      refine iteB_t (by simp; omega) ?_
      refine R0.idx hn ⟨by omega, by omega, ?_⟩
      intro a ha
      subst ha
      have S0 := Sat.start H
      (repeat (first | (refine Step.go ?_; intros) | refine iteB_t (by decide) ?_ | refine iteB_f (by decide) ?_ | (refine Duo.mk (by first | omega | exact rfl | decide) ?_; intros) | (refine Duo.mk (Clo.mk (by kernel_rfl)) ?_; intros)))
      refine iteB_i (fun h => ?_) (fun h => ?_)
      · (repeat (first | (refine Step.go ?_; intros) | refine iteB_t (by decide) ?_ | refine iteB_f (by decide) ?_ | (refine Duo.mk (by first | omega | exact rfl | decide) ?_; intros) | (refine Duo.mk (Clo.mk (by kernel_rfl)) ?_; intros)))
        have S9 := ‹Sat _ (_ :: _)›
        refine next _ _ Sat.grown ⟨_, _, _, _, _, _, _, _, _, newOf_at (freshS S9 (by (repeat (first | exact Sel.here | apply Sel.there))) (by (repeat (first | exact Sel.here | apply Sel.there)))) (by rw [h]; exact S9.obj), newOf_at (freshS S9 (by (repeat (first | exact Sel.here | apply Sel.there))) (by (repeat (first | exact Sel.here | apply Sel.there)))) S9.obj, newOf_at (freshS S9 (by (repeat (first | exact Sel.here | apply Sel.there))) (by (repeat (first | exact Sel.here | apply Sel.there)))) S9.obj, newOf_at (freshS S9 (by (repeat (first | exact Sel.here | apply Sel.there))) (by (repeat (first | exact Sel.here | apply Sel.there)))) S9.obj⟩
      · have S9 := ‹Sat _ (_ :: _)›
        refine next _ _ Sat.grown ⟨_, _, _, _, _, _, _, _, _, newOf_at (freshS S9 (by (repeat (first | exact Sel.here | apply Sel.there))) (by (repeat (first | exact Sel.here | apply Sel.there)))) (by rw [h]; exact S9.obj), newOf_at (freshS S9 (by (repeat (first | exact Sel.here | apply Sel.there))) (by (repeat (first | exact Sel.here | apply Sel.there)))) S9.obj, newOf_at (freshS S9 (by (repeat (first | exact Sel.here | apply Sel.there))) (by (repeat (first | exact Sel.here | apply Sel.there)))) S9.obj, newOf_at (freshS S9 (by (repeat (first | exact Sel.here | apply Sel.there))) (by (repeat (first | exact Sel.here | apply Sel.there)))) S9.obj⟩
  refine loop n 0 none 0 [] (fun _ => none) H0 (by omega) (by simp) (fun p h => by cases h) ?_
  exact (has_nothing (Sat.start H0)).to (Ent.cons (Ent.slNil Ent.refl))
end
end Go.Proofs.YtobolifgehagfaaGreat
