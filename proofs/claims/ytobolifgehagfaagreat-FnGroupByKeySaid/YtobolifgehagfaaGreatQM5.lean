/- What functions of this seat do, each proved by a walk; no condition. -/
import Derived.Test.YtobolifgehagfaaGreatRC
import Derived.Test.YtobolifgehagfaaGreatDenZC
import Derived.Test.YtobolifgehagfaaGreatQM6
import Derived.Test.YtobolifgehagfaaGreatQM4
set_option linter.unusedVariables false
set_option linter.unusedSimpArgs false
set_option linter.unnecessarySimpa false
namespace Go.Proofs.YtobolifgehagfaaGreat
open Go Go.Den Go.Proofs
/-! A batch of one watcher. -/
/-- A batch. -/
structure BT where
  evs : List PE
  revs : Int
  more : Int
def lastM (l : List PE) : Int := match l.getLast? with | some p => p.2.m | none => 0
def BT.add (b : BT) (x : PE) : BT :=
  if b.revs > 1000 then b
  else if b.evs.length = 0 then ⟨b.evs ++ [x], 1, b.more⟩
  else if x.2.m > lastM b.evs then (if b.revs + 1 > 1000 then ⟨b.evs, b.revs + 1, x.2.m⟩ else ⟨b.evs ++ [x], b.revs + 1, b.more⟩)
  else ⟨b.evs ++ [x], b.revs, b.more⟩
abbrev btO (b : BT) (q : Option Addr) (c : Nat) : Obj := .cells ⟨[.slice q b.evs.length c, .int .i64 b.revs, .int .i64 b.more]⟩ 80
section
variable {H H0 : Heap} {l : List HP}
theorem apEv {K : Option Addr → Nat → Nat → Heap → Prop} {q : Option Addr} {c r : Nat} {ps : List PE} {x : PE} {m : List HP} (hb : ps.length ≤ 2147483647) (S : Sat H (sl peC 77 1 q ps.length c ps :: pt r (.cells ⟨[pA x.1]⟩ 77) :: m))
    (k : ∀ q' c' H1, Sat H1 (sl peC 77 1 q' (ps ++ [x]).length c' (ps ++ [x]) :: m) → K q' (ps ++ [x]).length c' H1) : apD H 1 8 [.pointer none] 77 q ps.length c (some ⟨r, 0, none⟩) 1 K := by
  refine S.slApp (ys := [x]) (d := 1) ?_ rfl (by simp) (by simp [isCell]) rfl (by decide) (by omega) fun q' c' H1 S1 => ?_
  · simp only [List.flatMap_cons, List.flatMap_nil, List.append_nil]
    exact cellsAt_one (S.at_ (List.mem_cons_of_mem _ (List.mem_cons_self ..)))
  · have e : ps.length + 1 = (ps ++ [x]).length := by simp
    rw [e] at S1 ⊢
    exact k q' c' H1 (S1.to (Ent.cons (Ent.drop Ent.refl)))
theorem add_ok {g : PH} {b : BT} {x : PE} {eb c : Nat} {q : Option Addr} (hx : EvG g x.1 x.2) (hb : b.evs.length ≤ 2147483647) (hr : 0 ≤ b.revs ∧ b.revs ≤ 2147483647) (hall : ∀ p ∈ b.evs, EvG g p.1 p.2)
    (S : Sat H (pt eb (btO b q c) :: sl peC 77 1 q b.evs.length c b.evs :: has g :: l)) :
    CallsH Tryz.prog 33 ⟨[pA eb, pA x.1]⟩ H (fun e H1 => e = .returned (.tuple ⟨[]⟩) ∧ ∃ q' c', Sat H1 (pt eb (btO (b.add x) q' c') :: sl peC 77 1 q' (b.add x).evs.length c' (b.add x).evs :: has g :: l)) := by
  have last : ∀ (b' : BT) (H : Heap), b'.evs = b.evs → Sat H (pt eb (btO b' q c) :: sl peC 77 1 q b.evs.length c b.evs :: has g :: l) → F33.L0 (some (aA eb)) (some (aA x.1)) H (fun e H1 => e = .returned (.tuple ⟨[]⟩) ∧ ∃ q' c', Sat H1 (pt eb (btO ⟨b.evs ++ [x], b'.revs, b'.more⟩ q' c') :: sl peC 77 1 q' (b.evs ++ [x]).length c' (b.evs ++ [x]) :: has g :: l)) := by
    intro b' H he S
    refine F33.L0_step ?_
    unfold F33.L0n
    obtain ⟨ev, rv, mo⟩ := b'
    obtain rfl : ev = b.evs := he
    (repeat (first | (refine Step.go ?_; intros) | refine iteB_t (by decide) ?_ | refine iteB_f (by decide) ?_ | (refine Duo.mk (by first | omega | exact rfl | decide) ?_; intros) | (refine Duo.mk (Clo.mk (by kernel_rfl)) ?_; intros)))
    rename_i r1 H1 S1
    refine apEv (x := x) (m := pt eb (btO ⟨b.evs, rv, mo⟩ q c) :: has g :: l) hb (S1.to ?_) fun q' c' H2 S2 => ?_
    · iterate 3 (apply Ent.pick; (focus (repeat (first | exact Sel.here | apply Sel.there))))
      exact Ent.refl
    clear S1 S
    (repeat (first | (refine Step.go ?_; intros) | refine iteB_t (by decide) ?_ | refine iteB_f (by decide) ?_ | (refine Duo.mk (by first | omega | exact rfl | decide) ?_; intros) | (refine Duo.mk (Clo.mk (by kernel_rfl)) ?_; intros)))
    have S9 := ‹Sat _ _›
    refine ⟨rfl, q', c', S9.to ?_⟩
    iterate 2 (apply Ent.pick; (focus (repeat (first | exact Sel.here | apply Sel.there))))
    exact Ent.refl
  refine F33.calls ?_
  unfold F33.go
  (repeat (first | (refine Step.go ?_; intros) | refine iteB_t (by decide) ?_ | refine iteB_f (by decide) ?_ | (refine Duo.mk (by first | omega | exact rfl | decide) ?_; intros) | (refine Duo.mk (Clo.mk (by kernel_rfl)) ?_; intros)))
  refine iteB_i (fun h => ?_) (fun h => ?_)
  · have h := of_decide_eq_true h
    refine ⟨rfl, q, c, ?_⟩
    have : b.add x = b := if_pos h
    rw [this]; exact S
  have h := of_decide_eq_false h
  (repeat (first | (refine Step.go ?_; intros) | refine iteB_t (by decide) ?_ | refine iteB_f (by decide) ?_ | (refine Duo.mk (by first | omega | exact rfl | decide) ?_; intros) | (refine Duo.mk (Clo.mk (by kernel_rfl)) ?_; intros)))
  refine iteB_i (fun h0 => ?_) (fun h0 => ?_)
  · have h0 : b.evs.length = 0 := by simpa using h0
    have e : b.add x = ⟨b.evs ++ [x], 1, b.more⟩ := by unfold BT.add; rw [if_neg h, if_pos h0]
    rw [e]
    (repeat (first | (refine Step.go ?_; intros) | refine iteB_t (by decide) ?_ | refine iteB_f (by decide) ?_ | (refine Duo.mk (by first | omega | exact rfl | decide) ?_; intros) | (refine Duo.mk (Clo.mk (by kernel_rfl)) ?_; intros)))
    have S9 := ‹Sat _ (pt _ (.cells ⟨[pA x.1]⟩ _) :: _)›
    refine apEv (x := x) (m := pt eb (.cells ⟨[.slice q b.evs.length c, .int .i64 1, .int .i64 b.more]⟩ 80) :: has g :: l) hb (S9.to ?_) fun q' c' H2 S2 => ?_
    · iterate 3 (apply Ent.pick; (focus (repeat (first | exact Sel.here | apply Sel.there))))
      exact Ent.refl
    clear S9 S
    (repeat (first | (refine Step.go ?_; intros) | refine iteB_t (by decide) ?_ | refine iteB_f (by decide) ?_ | (refine Duo.mk (by first | omega | exact rfl | decide) ?_; intros) | (refine Duo.mk (Clo.mk (by kernel_rfl)) ?_; intros)))
    have S9 := ‹Sat _ _›
    refine ⟨rfl, q', c', S9.to ?_⟩
    iterate 2 (apply Ent.pick; (focus (repeat (first | exact Sel.here | apply Sel.there))))
    exact Ent.refl
  have h0 : ¬ b.evs.length = 0 := by
    intro h1; rw [h1] at h0; cases h0
  obtain ⟨y, hy⟩ : ∃ y, b.evs[b.evs.length - 1]? = some y := get_of (by omega)
  have hl : lastM b.evs = y.2.m := by
    unfold lastM
    rw [List.getLast?_eq_getElem?, hy]
  have hI := HasI.nat hy
  have eI : IntKind.wrap .i64 (((b.evs.length : Nat) : Int) - (1 : Int)) = ((b.evs.length - 1 : Nat) : Int) := by
    rw [wr64 (by omega) (by omega)]; omega
  have hs : PH.sub g (PH.of H) := HasG.sub (l := pt eb (btO b q c) :: sl peC 77 1 q b.evs.length c b.evs :: has g :: l) inferInstance S
  obtain ⟨kv, kb, kc, vb, vc, kr, vr, kf, vf, p1, p2, p3, p4⟩ := (hall y (List.mem_of_getElem? hy)).out
  obtain ⟨kv', kb', kc', vb', vc', kr', vr', kf', vf', p1', p2', p3', p4'⟩ := hx.out
  have B1 : Blc H y.1 _ := ⟨hs _ _ p1⟩
  have B2 : Blc H kv _ := ⟨hs _ _ p2⟩
  have B3 : Blc H x.1 _ := ⟨hs _ _ p1'⟩
  have B4 : Blc H kv' _ := ⟨hs _ _ p2'⟩
  (iterate 4 (refine Step.go ?_; intros))
  rw [eI]
  refine Sat.idx (f := peC) (E := 77) (z := 1) S ⟨by omega, by omega, fun r0 o0 hr0 => ?_⟩
  subst hr0
  (repeat (first | (refine Step.go ?_; intros) | refine iteB_t (by decide) ?_ | refine iteB_f (by decide) ?_ | (refine Duo.mk (by first | omega | exact rfl | decide) ?_; intros) | (refine Duo.mk (Clo.mk (by kernel_rfl)) ?_; intros)))
  refine iteB_i (fun h1 => ?_) (fun h1 => ?_)
  · have h1 : x.2.m > y.2.m := of_decide_eq_true h1
    (repeat (first | (refine Step.go ?_; intros) | refine iteB_t (by decide) ?_ | refine iteB_f (by decide) ?_ | (refine Duo.mk (by first | omega | exact rfl | decide) ?_; intros) | (refine Duo.mk (Clo.mk (by kernel_rfl)) ?_; intros)))
    rename_i H2 S2
    rw [wr64 (by omega) (by omega)] at S2 ⊢
    refine iteB_i (fun h2 => ?_) (fun h2 => ?_)
    · have h2 := of_decide_eq_true h2
      have e : b.add x = ⟨b.evs, b.revs + 1, x.2.m⟩ := by unfold BT.add; rw [if_neg h, if_neg h0, hl, if_pos h1, if_pos h2]
      rw [e]
      clear S
      (repeat (first | (refine Step.go ?_; intros) | refine iteB_t (by decide) ?_ | refine iteB_f (by decide) ?_ | (refine Duo.mk (by first | omega | exact rfl | decide) ?_; intros) | (refine Duo.mk (Clo.mk (by kernel_rfl)) ?_; intros)))
      have S9 := ‹Sat _ _›
      exact ⟨rfl, _, c, S9⟩
    · have h2 := of_decide_eq_false h2
      have e : b.add x = ⟨b.evs ++ [x], b.revs + 1, b.more⟩ := by unfold BT.add; rw [if_neg h, if_neg h0, hl, if_pos h1, if_neg h2]
      rw [e]
      exact last ⟨b.evs, b.revs + 1, b.more⟩ H2 rfl S2
  · have h1 : ¬ x.2.m > y.2.m := of_decide_eq_false h1
    have e : b.add x = ⟨b.evs ++ [x], b.revs, b.more⟩ := by unfold BT.add; rw [if_neg h, if_neg h0, hl, if_neg h1]
    rw [e]
    exact last b H rfl S
end
end Go.Proofs.YtobolifgehagfaaGreat

set_option linter.unusedVariables false
set_option linter.unusedSimpArgs false
set_option linter.unnecessarySimpa false
namespace Go.Proofs.YtobolifgehagfaaGreat
open Go Go.Den Go.Proofs
/-! What a batch tells. -/
def runB (ps : List PE) : BT := ps.foldl BT.add ⟨[], 0, 0⟩
theorem add_mem {b : BT} {x p : PE} (h : p ∈ (b.add x).evs) : p = x ∨ p ∈ b.evs := by
  unfold BT.add at h
  split at h
  · exact .inr h
  · split at h
    · simp at h; exact h.symm
    · split at h
      · split at h
        · exact .inr h
        · simp at h; exact h.symm
      · simp at h; exact h.symm
theorem add_len {b : BT} {x : PE} : (b.add x).evs.length ≤ b.evs.length + 1 := by
  unfold BT.add
  repeat' split
  all_goals simp
theorem add_revs {b : BT} {x : PE} (h : 0 ≤ b.revs ∧ b.revs ≤ 1001) : 0 ≤ (b.add x).revs ∧ (b.add x).revs ≤ 1001 := by
  unfold BT.add
  repeat' split
  all_goals (try dsimp only); omega
section
variable {H H0 : Heap} {l : List HP}
abbrev zbV (b : BT) (q : Option Addr) (c : Nat) : Value := .agg ⟨[.int .i64 0, .slice q b.evs.length c, .int .i64 b.revs, .int .i64 b.more]⟩
theorem one_ok {g : PH} {ps : List PE} {q : Option Addr} {n c : Nat} (hb : n ≤ 1000000) (hall : ∀ p ∈ ps, EvG g p.1 p.2) (S : Sat H (has g :: sl peC 77 1 q n c ps :: l)) :
    CallsH Tryz.prog 19 ⟨[.slice q n c]⟩ H (fun e H1 => ∃ q' c', e = .returned (zbV (runB ps) q' c') ∧ Sat H1 (sl peC 77 1 q' (runB ps).evs.length c' (runB ps).evs :: has g :: sl peC 77 1 q n c ps :: l)) := by
  have hlen := (Sat.slLen S (List.mem_cons_of_mem _ (List.mem_cons_self ..))).1
  refine F19.calls ?_
  unfold F19.go
  (repeat (first | (refine Step.go ?_; intros) | refine iteB_t (by decide) ?_ | refine iteB_f (by decide) ?_ | (refine Duo.mk (by first | omega | exact rfl | decide) ?_; intros) | (refine Duo.mk (Clo.mk (by kernel_rfl)) ?_; intros)))
  rename_i r0 H1 S1 r1 H2 S2
  have loop : ∀ (k i : Nat) (q' : Option Addr) (c' : Nat) (b : BT) (H : Heap), i + k = n → b = runB (ps.take i) → b.evs.length ≤ i → (0 ≤ b.revs ∧ b.revs ≤ 1001) → (∀ p ∈ b.evs, EvG g p.1 p.2) →
      Sat H (pt r1 (btO b q' c') :: sl peC 77 1 q' b.evs.length c' b.evs :: has g :: pt r0 (.cells ⟨[.int .i64 0, .slice none 0 0, .int .i64 0, .int .i64 0]⟩ 61) :: sl peC 77 1 q n c ps :: l) →
      F19.L0 r0 r1 q n c (n : Nat) (i : Nat) H (fun e H1 => ∃ q' c', e = .returned (zbV (runB ps) q' c') ∧ Sat H1 (sl peC 77 1 q' (runB ps).evs.length c' (runB ps).evs :: has g :: sl peC 77 1 q n c ps :: l)) := by
    intro k
    induction k with
    | zero =>
      intro i q' c' b H hi hb1 hb2 hb3 hb4 S
      obtain rfl : i = n := by omega
      rw [← hlen, List.take_length] at hb1
      subst hb1
      refine F19.L0_step ?_
      unfold F19.L0n
      refine iteB_f (by simp) ?_
      (repeat (first | (refine Step.go ?_; intros) | refine iteB_t (by decide) ?_ | refine iteB_f (by decide) ?_ | (refine Duo.mk (by first | omega | exact rfl | decide) ?_; intros) | (refine Duo.mk (Clo.mk (by kernel_rfl)) ?_; intros)))
      have S9 := ‹Sat _ _›
      refine ⟨q', c', rfl, S9.to ?_⟩
      iterate 3 (apply Ent.pick; (focus (repeat (first | exact Sel.here | apply Sel.there))))
      exact Ent.drop (Ent.drop Ent.refl)
    | succ k ih =>
      intro i q' c' b H hi hb1 hb2 hb3 hb4 S
      obtain ⟨x, hx⟩ : ∃ x, ps[i]? = some x := get_of (by omega)
      have hI := HasI.nat hx
      refine F19.L0_step ?_
      unfold F19.L0n
      refine iteB_t (by simp; omega) ?_
      obtain ⟨ra, oa, rfl⟩ := S.slSome (f := peC) (E := 77) (z := 1) (p := q) (n := n) (c := c) (xs := ps) (List.mem_cons_of_mem _ (List.mem_cons_of_mem _ (List.mem_cons_of_mem _ (List.mem_cons_of_mem _ (List.mem_cons_self ..))))) (by omega)
      (repeat (first | (refine Step.go ?_; intros) | refine iteB_t (by decide) ?_ | refine iteB_f (by decide) ?_ | (refine Duo.mk (by first | omega | exact rfl | decide) ?_; intros) | (refine Duo.mk (Clo.mk (by kernel_rfl)) ?_; intros)))
      refine callD_i (add_ok (x := x) (hall x (List.mem_of_getElem? hx)) (by omega) (by omega) hb4 S) ?_
      rintro _ H1 ⟨rfl, q2, c2, S1⟩
      (repeat (first | (refine Step.go ?_; intros) | refine iteB_t (by decide) ?_ | refine iteB_f (by decide) ?_ | (refine Duo.mk (by first | omega | exact rfl | decide) ?_; intros) | (refine Duo.mk (Clo.mk (by kernel_rfl)) ?_; intros)))
      rw [wr64 (by omega) (by omega), show ((i : Nat) : Int) + 1 = ((i + 1 : Nat) : Int) by omega]
      refine ih (i + 1) q2 c2 (b.add x) H1 (by omega) ?_ (by have := add_len (b := b) (x := x); omega) (add_revs hb3) ?_ S1
      · rw [List.take_add_one, hx, hb1]
        unfold runB
        rw [List.foldl_append]
        rfl
      · intro p hp
        rcases add_mem hp with rfl | hp
        · exact hall _ (List.mem_of_getElem? hx)
        · exact hb4 p hp
  refine loop n 0 none 0 ⟨[], 0, 0⟩ H2 (by omega) rfl (by simp) ⟨by decide, by decide⟩ (fun p hp => by cases hp) (S2.to ?_)
  apply Ent.pick
  · (repeat (first | exact Sel.here | apply Sel.there))
  refine Ent.slNil ?_
  iterate 2 (apply Ent.pick; (focus (repeat (first | exact Sel.here | apply Sel.there))))
  exact Ent.refl
theorem kvOf_ok {g : PH} {x : EV} {kv kb kc vb vc : Nat} {kr vr : List Value} {kf vf : Nat × Nat} (p2 : H[kv]? = some (.cells ⟨[.slice (some (aA kb)) x.key.size kc, .int .i64 x.c, .int .i64 x.m, .int .i64 x.v, .slice (some (aA vb)) x.val.size vc, .int .i64 x.l]⟩ 85))
    (p3 : H[kb]? = some (.cells ⟨bytesOf x.key.data.toList ++ kr⟩ 5 kf)) (p4 : H[vb]? = some (.cells ⟨bytesOf x.val.data.toList ++ vr⟩ 5 vf)) :
    CallsH Tryz.prog 50 ⟨[pA kv]⟩ H (Gives (.agg ⟨[.string x.key, .string x.val, .int .i64 x.c, .int .i64 x.m, .int .i64 x.v, .int .i64 x.l]⟩) H) := by
  have S := Sat.start H
  refine F50.calls ?_
  unfold F50.go
  refine Step.go ?_
  intro r H1 S1
  have E1 : ExtH H H1 := Sat.grown
  have B1 : Blc H1 kv _ := ⟨E1.block_some p2⟩
  clear S
  (repeat (first | (refine Step.go ?_; intros) | refine iteB_t (by decide) ?_ | refine iteB_f (by decide) ?_ | (refine Duo.mk (by first | omega | exact rfl | decide) ?_; intros) | (refine Duo.mk (Clo.mk (by kernel_rfl)) ?_; intros)))
  refine ⟨x.key.data.toList, rfl, cellsAt_block (E1.block_some p3), ?_⟩
  (repeat (first | (refine Step.go ?_; intros) | refine iteB_t (by decide) ?_ | refine iteB_f (by decide) ?_ | (refine Duo.mk (by first | omega | exact rfl | decide) ?_; intros) | (refine Duo.mk (Clo.mk (by kernel_rfl)) ?_; intros)))
  refine ⟨x.val.data.toList, rfl, cellsAt_block (E1.block_some p4), ?_⟩
  (repeat (first | (refine Step.go ?_; intros) | refine iteB_t (by decide) ?_ | refine iteB_f (by decide) ?_ | (refine Duo.mk (by first | omega | exact rfl | decide) ?_; intros) | (refine Duo.mk (Clo.mk (by kernel_rfl)) ?_; intros)))
  exact ⟨rfl, Sat.grown⟩
theorem event_ok {g : PH} {r : Nat} {x : EV} (h : EvG g r x) (hs : PH.sub g (PH.of H)) : CallsH Tryz.prog 32 ⟨[pA r]⟩ H (Gives (.agg ⟨x.cells⟩) H) := by
  obtain ⟨kv, kb, kc, vb, vc, kr, vr, kf, vf, p1, p2, p3, p4⟩ := h.out
  have S := Sat.start H
  refine F32.calls ?_
  unfold F32.go
  refine Step.go ?_
  intro r0 H1 S1
  have E1 : ExtH H H1 := Sat.grown
  clear S
  have B1 : Blc H1 r _ := ⟨E1.block_some (hs _ _ p1)⟩
  (repeat (first | (refine Step.go ?_; intros) | refine iteB_t (by decide) ?_ | refine iteB_f (by decide) ?_ | (refine Duo.mk (by first | omega | exact rfl | decide) ?_; intros) | (refine Duo.mk (Clo.mk (by kernel_rfl)) ?_; intros)))
  refine gives_i S1 (kvOf_ok (g := g) (E1.block_some (hs _ _ p2)) (E1.block_some (hs _ _ p3)) (E1.block_some (hs _ _ p4))) fun H2 E2 S2 => ?_
  clear S1
  (repeat (first | (refine Step.go ?_; intros) | refine iteB_t (by decide) ?_ | refine iteB_f (by decide) ?_ | (refine Duo.mk (by first | omega | exact rfl | decide) ?_; intros) | (refine Duo.mk (Clo.mk (by kernel_rfl)) ?_; intros)))
  have e : ((if x.gone = true then (1 : Int) else 0) == 1) = x.gone := by cases x.gone <;> rfl
  refine ⟨?_, Sat.grown⟩
  rw [e]
abbrev tdV (id : Int) (q : Option Addr) (n c : Nat) (rv mo : Int) : Value := .agg ⟨[.int .i64 id, .slice q n c, .int .i64 rv, .int .i64 mo]⟩
abbrev tdC (id : Int) (q : Option Addr) (n c : Nat) (rv mo : Int) : List Value := [.int .i64 id, .slice q n c, .int .i64 rv, .int .i64 mo]
theorem told_ok {g : PH} {ps : List PE} {q : Option Addr} {n c : Nat} {id rv mo : Int} (hb : n ≤ 1000000) (hall : ∀ p ∈ ps, EvG g p.1 p.2) (S : Sat H (has g :: sl peC 77 1 q n c ps :: l)) :
    CallsH Tryz.prog 18 ⟨[tdV id q n c rv mo]⟩ H (fun e H1 => ∃ q' c', e = .returned (tdV id q' n c' rv mo) ∧ Sat H1 (sl EV.cells 36 7 q' n c' (ps.map (·.2)) :: has g :: sl peC 77 1 q n c ps :: l)) := by
  have hlen := (Sat.slLen S (List.mem_cons_of_mem _ (List.mem_cons_self ..))).1
  refine F18.calls ?_
  unfold F18.go
  refine Step.go ?_
  intro r0 H1 S1
  refine Step.go ?_
  intro r1 H2 S2
  refine Step.go ?_
  refine Step.go ?_
  refine Step.go ?_
  refine Step.go ?_
  intro r2 H3 S3
  clear S S1 S2
  (repeat (first | (refine Step.go ?_; intros) | refine iteB_t (by decide) ?_ | refine iteB_f (by decide) ?_ | (refine Duo.mk (by first | omega | exact rfl | decide) ?_; intros) | (refine Duo.mk (Clo.mk (by kernel_rfl)) ?_; intros)))
  have S4 := ‹Sat _ _›
  have loop : ∀ (k i : Nat) (q' : Option Addr) (c' : Nat) (H : Heap), i + k = n →
      Sat H (sl EV.cells 36 7 q' i c' ((ps.take i).map (·.2)) :: pt r2 (.cells ⟨tdC id q' i c' rv mo⟩ 39) :: pt r1 (.cells ⟨tdC 0 none 0 0 0 0⟩ 39) :: pt r0 (.cells ⟨tdC id q n c rv mo⟩ 61) :: has g :: sl peC 77 1 q n c ps :: l) →
      F18.L0 r0 r1 r2 (i : Nat) H (fun e H1 => ∃ q' c', e = .returned (tdV id q' n c' rv mo) ∧ Sat H1 (sl EV.cells 36 7 q' n c' (ps.map (·.2)) :: has g :: sl peC 77 1 q n c ps :: l)) := by
    intro k
    induction k with
    | zero =>
      intro i q' c' H hi S
      obtain rfl : i = n := by omega
      rw [← hlen, List.take_length] at S
      rw [hlen] at S
      refine F18.L0_step ?_
      unfold F18.L0n
      (repeat (first | (refine Step.go ?_; intros) | refine iteB_t (by decide) ?_ | refine iteB_f (by decide) ?_ | (refine Duo.mk (by first | omega | exact rfl | decide) ?_; intros) | (refine Duo.mk (Clo.mk (by kernel_rfl)) ?_; intros)))
      refine iteB_f (by simp) ?_
      (repeat (first | (refine Step.go ?_; intros) | refine iteB_t (by decide) ?_ | refine iteB_f (by decide) ?_ | (refine Duo.mk (by first | omega | exact rfl | decide) ?_; intros) | (refine Duo.mk (Clo.mk (by kernel_rfl)) ?_; intros)))
      have S9 := ‹Sat _ _›
      refine ⟨q', c', rfl, S9.to ?_⟩
      iterate 3 (apply Ent.pick; (focus (repeat (first | exact Sel.here | apply Sel.there))))
      exact Ent.drop (Ent.drop (Ent.drop Ent.refl))
    | succ k ih =>
      intro i q' c' H hi S
      obtain ⟨x, hx⟩ : ∃ x, ps[i]? = some x := get_of (by omega)
      have hI := HasI.nat hx
      have hs : PH.sub g (PH.of H) := HasG.sub (l := sl EV.cells 36 7 q' i c' ((ps.take i).map (·.2)) :: pt r2 (.cells ⟨tdC id q' i c' rv mo⟩ 39) :: pt r1 (.cells ⟨tdC 0 none 0 0 0 0⟩ 39) :: pt r0 (.cells ⟨tdC id q n c rv mo⟩ 61) :: has g :: sl peC 77 1 q n c ps :: l) inferInstance S
      obtain ⟨ra, oa, rfl⟩ := S.slSome (f := peC) (E := 77) (z := 1) (p := q) (n := n) (c := c) (xs := ps) (List.mem_cons_of_mem _ (List.mem_cons_of_mem _ (List.mem_cons_of_mem _ (List.mem_cons_of_mem _ (List.mem_cons_of_mem _ (List.mem_cons_self ..)))))) (by omega)
      refine F18.L0_step ?_
      unfold F18.L0n
      (repeat (first | (refine Step.go ?_; intros) | refine iteB_t (by decide) ?_ | refine iteB_f (by decide) ?_ | (refine Duo.mk (by first | omega | exact rfl | decide) ?_; intros) | (refine Duo.mk (Clo.mk (by kernel_rfl)) ?_; intros)))
      refine iteB_t (by simp; omega) ?_
      (repeat (first | (refine Step.go ?_; intros) | refine iteB_t (by decide) ?_ | refine iteB_f (by decide) ?_ | (refine Duo.mk (by first | omega | exact rfl | decide) ?_; intros) | (refine Duo.mk (Clo.mk (by kernel_rfl)) ?_; intros)))
      refine gives_i S (event_ok (hall x (List.mem_of_getElem? hx)) hs) fun H1 E1 S1 => ?_
      clear S
      (repeat (first | (refine Step.go ?_; intros) | refine iteB_t (by decide) ?_ | refine iteB_f (by decide) ?_ | (refine Duo.mk (by first | omega | exact rfl | decide) ?_; intros) | (refine Duo.mk (Clo.mk (by kernel_rfl)) ?_; intros)))
      rename_i r3 H2 S2
      have S3 := S2.bring (c := sl EV.cells 36 7 q' i c' ((ps.take i).map (·.2))) (by (repeat (first | exact Sel.here | apply Sel.there)))
      refine S3.slApp (ys := [x.2]) (q := some ⟨r3, 0, none⟩) (d := 1) ?_ rfl (by simp) (by simp [isCell]) rfl (by decide) (by omega) fun q2 c2 H3 S4 => ?_
      · simp only [List.flatMap_cons, List.flatMap_nil, List.append_nil]
        exact cellsAt_one (S2.at_ (List.mem_cons_self ..))
      clear S1 S2 S3
      (repeat (first | (refine Step.go ?_; intros) | refine iteB_t (by decide) ?_ | refine iteB_f (by decide) ?_ | (refine Duo.mk (by first | omega | exact rfl | decide) ?_; intros) | (refine Duo.mk (Clo.mk (by kernel_rfl)) ?_; intros)))
      have S5 := ‹Sat _ _›
      rw [wr64 (by omega) (by omega), show ((i : Nat) : Int) + 1 = ((i + 1 : Nat) : Int) by omega]
      have e : (ps.take i).map (·.2) ++ [x.2] = (ps.take (i + 1)).map (·.2) := by
        rw [List.take_add_one, hx, List.map_append]; rfl
      rw [e] at S5
      refine ih (i + 1) q2 c2 _ (by omega) (S5.to ?_)
      iterate 6 (apply Ent.pick; (focus (repeat (first | exact Sel.here | apply Sel.there))))
      exact Ent.drop Ent.refl
  refine loop n 0 none 0 _ (by omega) (S4.to (Ent.slNil ?_))
  iterate 5 (apply Ent.pick; (focus (repeat (first | exact Sel.here | apply Sel.there))))
  exact Ent.refl
theorem Batch_ok {xs : List EV} {p : Option Addr} {n c : Nat} (hR : RowsAt EV.cells 7 H0 p xs) (hn : xs.length = n) (hb : n ≤ 1000000) (hok : ∀ x ∈ xs, EvOk x) :
    CallsH Tryz.prog 10 ⟨[.slice p n c]⟩ H0 (fun e H1 => ∃ q' c', ∃ ps : List PE, ps.map (·.2) = xs ∧ e = .returned (tdV 0 q' (runB ps).evs.length c' (runB ps).revs (runB ps).more) ∧ ExtH H0 H1 ∧ Sat H1 [sl EV.cells 36 7 q' (runB ps).evs.length c' ((runB ps).evs.map (·.2)), old H0]) := by
  have S := Sat.start H0
  refine F10.calls ?_
  unfold F10.go
  (repeat (first | (refine Step.go ?_; intros) | refine iteB_t (by decide) ?_ | refine iteB_f (by decide) ?_ | (refine Duo.mk (by first | omega | exact rfl | decide) ?_; intros) | (refine Duo.mk (Clo.mk (by kernel_rfl)) ?_; intros)))
  rename_i r0 H1 S1
  have E1 : ExtH H0 H1 := Sat.grown
  refine callD_i (eventsIn_ok (hR.ext E1) hn (by omega) hok) ?_
  rintro _ H2 ⟨q, qc, ps, g, rfl, hps, hall, S2⟩
  have hlen : ps.length = n := by rw [← hn, ← hps, List.length_map]
  have S3 := Sat.onto (m := [has g, sl peC 77 1 q n qc ps]) S2 S1
  simp only [List.cons_append, List.nil_append] at S3
  clear S S1 S2
  (repeat (first | (refine Step.go ?_; intros) | refine iteB_t (by decide) ?_ | refine iteB_f (by decide) ?_ | (refine Duo.mk (by first | omega | exact rfl | decide) ?_; intros) | (refine Duo.mk (Clo.mk (by kernel_rfl)) ?_; intros)))
  refine callD_i (one_ok hb hall S3) ?_
  rintro _ H3 ⟨q1, c1, rfl, S4⟩
  clear S3
  have hmem : ∀ (l : List PE) (b : BT), (∀ p ∈ b.evs, EvG g p.1 p.2) → (∀ p ∈ l, EvG g p.1 p.2) → ∀ p ∈ (l.foldl BT.add b).evs, EvG g p.1 p.2 := by
    intro l
    induction l with
    | nil => intro b hb _; exact hb
    | cons x l ih =>
      intro b hb hl
      refine ih _ (fun p hp => ?_) fun p hp => hl p (List.mem_cons_of_mem _ hp)
      rcases add_mem hp with rfl | hp
      · exact hl _ (List.mem_cons_self ..)
      · exact hb p hp
  have hlen2 : ∀ (l : List PE) (b : BT), (l.foldl BT.add b).evs.length ≤ b.evs.length + l.length := by
    intro l
    induction l with
    | nil => intro b; simp
    | cons x l ih =>
      intro b
      have h1 := ih (b.add x)
      have h2 := add_len (b := b) (x := x)
      simp only [List.foldl_cons, List.length_cons]
      omega
  have hm := hmem ps ⟨[], 0, 0⟩ (fun p hp => by cases hp) hall
  have hl := hlen2 ps ⟨[], 0, 0⟩
  have hl : (runB ps).evs.length ≤ 1000000 := by
    have : (runB ps).evs.length ≤ 0 + ps.length := hl
    omega
  (repeat (first | (refine Step.go ?_; intros) | refine iteB_t (by decide) ?_ | refine iteB_f (by decide) ?_ | (refine Duo.mk (by first | omega | exact rfl | decide) ?_; intros) | (refine Duo.mk (Clo.mk (by kernel_rfl)) ?_; intros)))
  refine callD_i (told_ok (l := sl peC 77 1 q n qc ps :: pt r0 (.cells ⟨tdC 0 none 0 0 0 0⟩ 39) :: [old H0]) hl hm (S4.to ?_)) ?_
  · iterate 5 (apply Ent.pick; (focus (repeat (first | exact Sel.here | apply Sel.there))))
    exact Ent.refl
  rintro _ H5 ⟨q2, c2, rfl, S5⟩
  clear S4
  (repeat (first | (refine Step.go ?_; intros) | refine iteB_t (by decide) ?_ | refine iteB_f (by decide) ?_ | (refine Duo.mk (by first | omega | exact rfl | decide) ?_; intros) | (refine Duo.mk (Clo.mk (by kernel_rfl)) ?_; intros)))
  have S9 := ‹Sat _ _›
  refine ⟨q2, c2, ps, hps, rfl, Sat.grown, S9.to ?_⟩
  iterate 2 (apply Ent.pick; (focus (repeat (first | exact Sel.here | apply Sel.there))))
  exact Ent.nil
end
end Go.Proofs.YtobolifgehagfaaGreat

set_option linter.unusedVariables false
set_option linter.unusedSimpArgs false
set_option linter.unnecessarySimpa false
namespace Go.Proofs.YtobolifgehagfaaGreat
open Go Go.Den Go.Proofs
/-! Events held against each other. -/
theorem eu9 : Tryz.prog.underlying 9 = some .string := by kernel_rfl
theorem ea9 : aggT Tryz.prog 9 = false := by kernel_rfl
theorem eu2 : Tryz.prog.underlying 2 = some (.int .i64) := by kernel_rfl
theorem ea2 : aggT Tryz.prog 2 = false := by kernel_rfl
theorem eu4 : Tryz.prog.underlying 4 = some .bool := by kernel_rfl
theorem ea4 : aggT Tryz.prog 4 = false := by kernel_rfl
def fs34 : Array Field := #[{ name := "Key", type := 9, offset := 0, embedded := false, tag := "", pkgPath := "", byteOffset := 0 }, { name := "Value", type := 9, offset := 1, embedded := false, tag := "", pkgPath := "", byteOffset := 16 }, { name := "Create", type := 2, offset := 2, embedded := false, tag := "", pkgPath := "", byteOffset := 32 }, { name := "Mod", type := 2, offset := 3, embedded := false, tag := "", pkgPath := "", byteOffset := 40 }, { name := "Version", type := 2, offset := 4, embedded := false, tag := "", pkgPath := "", byteOffset := 48 }, { name := "Lease", type := 2, offset := 5, embedded := false, tag := "", pkgPath := "", byteOffset := 56 }]
def fs36 : Array Field := #[{ name := "Gone", type := 4, offset := 0, embedded := false, tag := "", pkgPath := "", byteOffset := 0 }, { name := "KV", type := 34, offset := 1, embedded := false, tag := "", pkgPath := "", byteOffset := 8 }]
theorem eu34 : Tryz.prog.underlying 34 = some (.struct fs34) := by kernel_rfl
theorem eqIn34 {a0 b0 : ByteArray} {a1 b1 : ByteArray} {a2 b2 : Int} {a3 b3 : Int} {a4 b4 : Int} {a5 b5 : Int} (w : World) : (Op.equalIn 9999 34 (.agg ⟨[.string a0, .string a1, .int .i64 a2, .int .i64 a3, .int .i64 a4, .int .i64 a5]⟩) (.agg ⟨[.string b0, .string b1, .int .i64 b2, .int .i64 b3, .int .i64 b4, .int .i64 b5]⟩)).run Tryz.prog w = .ok ([a0 == b0, a1 == b1, a2 == b2, a3 == b3, a4 == b4, a5 == b5].all id) w := by
  refine equalIn_struct (fs := fs34) (d := 9998) eu34 (by kernel_rfl) ?_ w
  refine .cons (by decide) (part_leaf eu9 ea9 rfl) (part_leaf eu9 ea9 rfl) (equalIn_string eu9) ?_
  refine .cons (by decide) (part_leaf eu9 ea9 rfl) (part_leaf eu9 ea9 rfl) (equalIn_string eu9) ?_
  refine .cons (by decide) (part_leaf eu2 ea2 rfl) (part_leaf eu2 ea2 rfl) (equalIn_int eu2) ?_
  refine .cons (by decide) (part_leaf eu2 ea2 rfl) (part_leaf eu2 ea2 rfl) (equalIn_int eu2) ?_
  refine .cons (by decide) (part_leaf eu2 ea2 rfl) (part_leaf eu2 ea2 rfl) (equalIn_int eu2) ?_
  refine .cons (by decide) (part_leaf eu2 ea2 rfl) (part_leaf eu2 ea2 rfl) (equalIn_int eu2) .nil
theorem i34 : Tryz.prog.info? 34 = some Tryz.t34 := by kernel_rfl
theorem s34 : Tryz.t34.size = 6 := by kernel_rfl
theorem part34 (x : EV) (w : World) : (part 34 (⟨x.cells⟩ : Array Value) 1).run Tryz.prog w = .ok (.agg ⟨[.string x.key, .string x.val, .int .i64 x.c, .int .i64 x.m, .int .i64 x.v, .int .i64 x.l]⟩) w := by
  rw [part_agg eu34 i34 (by kernel_rfl), s34]
  rfl
theorem eqEv {op : BinOp} {x y : EV} {k : Bool → Prop} (h : k ([x.gone == y.gone, [x.key == y.key, x.val == y.val, x.c == y.c, x.m == y.m, x.v == y.v, x.l == y.l].all id].all id)) : rawB Tryz.prog op 36 (.agg ⟨x.cells⟩) (.agg ⟨y.cells⟩) k := by
  refine rawB_struct (P := Tryz.prog) (fs := fs36) (bs := [x.gone == y.gone, [x.key == y.key, x.val == y.val, x.c == y.c, x.m == y.m, x.v == y.v, x.l == y.l].all id]) (by kernel_rfl) (by kernel_rfl) (by kernel_rfl) ?_ h
  refine .cons (by decide) (part_leaf eu4 ea4 rfl) (part_leaf eu4 ea4 rfl) (equalIn_bool eu4) ?_
  refine .cons (by decide) (part34 x) (part34 y) (fun w => eqIn34 w) .nil
end Go.Proofs.YtobolifgehagfaaGreat

set_option linter.unusedVariables false
set_option linter.unusedSimpArgs false
set_option linter.unnecessarySimpa false
namespace Go.Proofs.YtobolifgehagfaaGreat
open Go Go.Den Go.Proofs
/-! Lists of events held against each other; what a batch is. -/
theorem eq_refl_ev (x : EV) : [x.gone == x.gone, [x.key == x.key, x.val == x.val, x.c == x.c, x.m == x.m, x.v == x.v, x.l == x.l].all id].all id = true := by
  have e : ∀ a : ByteArray, (a == a) = true := fun a => by rw [ba_beq]; simp
  simp [e]
theorem RowsAt.pre {α : Type} {f : α → List Value} {z : Nat} {H : Heap} {p : Option Addr} {xs : List α} (h : RowsAt f z H p xs) (k : Nat) : RowsAt f z H p (xs.take k) := by
  rcases h with h | ⟨a, h1, h2⟩
  · subst h; rw [List.take_nil]; exact .inl rfl
  · refine .inr ⟨a, h1, fun i x hi => h2 i x ?_⟩
    rw [List.getElem?_take] at hi
    split at hi
    · exact hi
    · cases hi
theorem slP_zero (p : Option Addr) (c z : Nat) : slP p 0 c z = p := by
  unfold slP
  split
  · rfl
  · rw [Nat.zero_mul]
    cases p with
    | none => rfl
    | some a => simp [Addr.add]
section
variable {H H0 : Heap} {l : List HP}
theorem same_ok {xs : List EV} {p q : Option Addr} {n c d : Nat} (hR : RowsAt EV.cells 7 H0 p xs) (hQ : RowsAt EV.cells 7 H0 q xs) (hn : xs.length = n) (hb : n ≤ 1000000) : CallsH Tryz.prog 11 ⟨[.slice p n c, .slice q n d]⟩ H0 (Gives (.bool true) H0) := by
  refine F11.calls ?_
  unfold F11.go
  refine iteB_f (by simp) ?_
  have R0 : RowsC H0 p EV.cells 7 xs := ⟨hR⟩
  have loop : ∀ (k i : Nat), i + k = n → F11.L0 p n c q n d (n : Nat) (i : Nat) H0 (Gives (.bool true) H0) := by
    intro k
    induction k with
    | zero =>
      intro i hk
      refine F11.L0_step ?_
      unfold F11.L0n
      refine iteB_f (by simp; omega) ?_
      exact ⟨rfl, ExtH.refl _⟩
    | succ k ih =>
      intro i hk
      obtain ⟨x, hx⟩ : ∃ x, xs[i]? = some x := get_of (by omega)
      have hI := HasI.nat hx
      refine F11.L0_step ?_
      unfold F11.L0n
      refine iteB_t (by simp; omega) ?_
      refine R0.idx hn ⟨by omega, by omega, ?_⟩
      intro a ha
      subst ha
      have R1 : RowsC H0 q EV.cells 7 xs := ⟨hQ⟩
      refine R1.idx hn ⟨by omega, by omega, ?_⟩
      intro a2 ha2
      subst ha2
      have S := Sat.start H0
      (repeat (first | (refine Step.go ?_; intros) | refine iteB_t (by decide) ?_ | refine iteB_f (by decide) ?_ | (refine Duo.mk (by first | omega | exact rfl | decide) ?_; intros) | (refine Duo.mk (Clo.mk (by kernel_rfl)) ?_; intros)))
      refine eqEv (x := x) (y := x) ?_
      rw [eq_refl_ev]
      (repeat (first | (refine Step.go ?_; intros) | refine iteB_t (by decide) ?_ | refine iteB_f (by decide) ?_ | (refine Duo.mk (by first | omega | exact rfl | decide) ?_; intros) | (refine Duo.mk (Clo.mk (by kernel_rfl)) ?_; intros)))
      rw [wr64 (by omega) (by omega), show ((i : Nat) : Int) + 1 = ((i + 1 : Nat) : Int) by omega]
      exact ih (i + 1) (by omega)
  exact loop n 0 (by omega)
end
/-- What a batch is after some events. -/
def BInv (ps : List PE) (b : BT) (i : Nat) : Prop :=
  (b.evs = ps.take i ∧ 0 ≤ b.revs ∧ b.revs ≤ 1000 ∧ b.more = 0) ∨
  (b.revs = 1001 ∧ ∃ j, ∃ x y : PE, j < i ∧ 0 < j ∧ b.evs = ps.take j ∧ ps[j]? = some x ∧ ps[j - 1]? = some y ∧ x.2.m > y.2.m ∧ b.more = x.2.m)
theorem inv_step {ps : List PE} {b : BT} {i : Nat} {x : PE} (h : BInv ps b i) (hx : ps[i]? = some x) : BInv ps (b.add x) (i + 1) := by
  have ht : ps.take (i + 1) = ps.take i ++ [x] := by rw [List.take_add_one, hx]; rfl
  rcases h with ⟨h1, h2, h3, h4⟩ | ⟨h1, j, y, z, h2, h3⟩
  · unfold BT.add
    rw [if_neg (by omega)]
    by_cases he : b.evs.length = 0
    · rw [if_pos he]
      exact .inl ⟨by rw [ht, h1], by show (0 : Int) ≤ 1; omega, by show (1 : Int) ≤ 1000; omega, h4⟩
    · rw [if_neg he]
      by_cases hm : x.2.m > lastM b.evs
      · rw [if_pos hm]
        by_cases hr : b.revs + 1 > 1000
        · rw [if_pos hr]
          refine .inr ⟨by show b.revs + 1 = 1001; omega, ?_⟩
          have hi : i < ps.length := lt_of hx
          have hi0 : 0 < i := by
            rcases Nat.eq_zero_or_pos i with h0 | h0
            · subst h0; rw [h1] at he; simp at he
            · exact h0
          obtain ⟨y, hy⟩ : ∃ y, ps[i - 1]? = some y := get_of (by omega)
          refine ⟨i, x, y, by omega, hi0, h1, hx, hy, ?_, rfl⟩
          have : lastM b.evs = y.2.m := by
            unfold lastM
            rw [h1, List.getLast?_eq_getElem?, List.length_take, Nat.min_eq_left (by omega), List.getElem?_take, if_pos (by omega), hy]
          rw [this] at hm; exact hm
        · rw [if_neg hr]
          exact .inl ⟨by rw [ht, h1], by show (0 : Int) ≤ b.revs + 1; omega, by show b.revs + 1 ≤ 1000; omega, h4⟩
      · rw [if_neg hm]
        exact .inl ⟨by rw [ht, h1], h2, h3, h4⟩
  · unfold BT.add
    rw [if_pos (by omega)]
    exact .inr ⟨h1, j, y, z, by omega, h3⟩
theorem inv_run (ps : List PE) : ∀ i, i ≤ ps.length → BInv ps (runB (ps.take i)) i
  | 0, _ => .inl ⟨by simp [runB], by show (0 : Int) ≤ 0; omega, by show (0 : Int) ≤ 1000; omega, rfl⟩
  | i + 1, h => by
    obtain ⟨x, hx⟩ : ∃ x, ps[i]? = some x := get_of (by omega)
    have := inv_step (inv_run ps i (by omega)) hx
    have ht : ps.take (i + 1) = ps.take i ++ [x] := by rw [List.take_add_one, hx]; rfl
    rw [ht]
    unfold runB at *
    rw [List.foldl_append]
    exact this
/-- What a batch tells: a beginning of the events, up to where a revision grows. -/
theorem batch_law {ps : List PE} {xs : List EV} (h : ps.map (·.2) = xs) : ∃ N, N = (runB ps).evs.length ∧ N ≤ xs.length ∧ (runB ps).evs.map (·.2) = xs.take N ∧ (N = xs.length → (runB ps).more = 0) ∧ (N < xs.length → 0 < N ∧ ∃ x y, xs[N]? = some x ∧ xs[N - 1]? = some y ∧ x.m > y.m ∧ (runB ps).more = x.m) := by
  have hl : ps.length = xs.length := by rw [← h, List.length_map]
  have hi := inv_run ps ps.length (Nat.le_refl _)
  rw [List.take_length] at hi
  rcases hi with ⟨h1, h2, h3, h4⟩ | ⟨h1, j, x, y, h2, h3, h5, h6, h7, h8, h9⟩
  · rw [List.take_length] at h1
    refine ⟨xs.length, by rw [h1, hl], Nat.le_refl _, by rw [h1, h, List.take_length], fun _ => h4, fun h => absurd h (Nat.lt_irrefl _)⟩
  · refine ⟨j, by rw [h5, List.length_take]; omega, by omega, by rw [h5, List.map_take, h], fun e => by omega, fun _ => ⟨h3, x.2, y.2, ?_, ?_, h8, h9⟩⟩
    · rw [← h, List.getElem?_map, h6]; rfl
    · rw [← h, List.getElem?_map, h7]; rfl
end Go.Proofs.YtobolifgehagfaaGreat

set_option linter.unusedVariables false
set_option linter.unusedSimpArgs false
set_option linter.unnecessarySimpa false
namespace Go.Proofs.YtobolifgehagfaaGreat
open Go Go.Den Go.Proofs
/-! FnBatchWhole. -/
section
variable {H H0 : Heap} {l : List HP}
theorem live_end (E : ExtH H0 H) : callD Tryz.prog 9 [] H (panK (Gives (.bool true) H0)) fun v H2 => tBool v fun b => Gives (.bool true) H0 (.returned (.bool b)) H2 := by
  refine gives_i (Sat.start H) live_ok fun H2 E2 S2 => ?_
  refine tBool_i ?_
  exact ⟨rfl, E.trans E2⟩
theorem batchWhole_ok {xs : List EV} {p : Option Addr} {n c : Nat} (hR : RowsAt EV.cells 7 H0 p xs) (hn : xs.length = n) (hc : n ≤ c) : CallsH Tryz.prog 5 ⟨[.slice p n c]⟩ H0 (Gives (.bool true) H0) := by
  refine F5.calls ?_
  unfold F5.go
  refine callD_i (fit18 hR hn) ?_
  rintro _ H1 ⟨E1, b1, rfl, hb1⟩
  (repeat (first | (refine Step.go ?_; intros) | refine iteB_t (by decide) ?_ | refine iteB_f (by decide) ?_ | (refine Duo.mk (by first | omega | exact rfl | decide) ?_; intros) | (refine Duo.mk (Clo.mk (by kernel_rfl)) ?_; intros)))
  refine iteB_i (fun h => ⟨rfl, E1⟩) (fun h => ?_)
  obtain ⟨hnb, hok⟩ := hb1 (by simpa using h)
  have loop : ∀ (k i : Nat) (H : Heap), i + k = n → i ≤ 4000 → ExtH H0 H → F5.L0 p n c p n c (n : Nat) (i : Nat) H (Gives (.bool true) H0) := by
    intro k
    induction k with
    | zero =>
      intro i H hi hle E
      obtain rfl : i = n := by omega
      refine F5.L0_step ?_
      unfold F5.L0n
      refine iteB_f (by simp) ?_
      refine callD_i (Batch_ok (hR.ext E) hn (by omega) hok) ?_
      rintro _ H2 ⟨q, qc, ps, hps, rfl, E2, S2⟩
      obtain ⟨N, hN, hle2, hevs, hfull, hpart⟩ := batch_law hps
      rw [← hN] at S2 ⊢
      rw [hevs] at S2
      generalize hmo : (runB ps).more = mo at hfull hpart S2 ⊢
      generalize (runB ps).revs = rv
      have E02 := E.trans E2
      (repeat (first | (refine Step.go ?_; intros) | refine iteB_t (by decide) ?_ | refine iteB_f (by decide) ?_ | (refine Duo.mk (by first | omega | exact rfl | decide) ?_; intros) | (refine Duo.mk (Clo.mk (by kernel_rfl)) ?_; intros)))
      rename_i r1 _ _ _ _ _ _ _ _ H3 S3
      have E03 : ExtH H0 H3 := E.trans Sat.grown
      refine iteB_f (by simp; omega) ?_
      refine ⟨by omega, by omega, ?_⟩
      (repeat (first | (refine Step.go ?_; intros) | refine iteB_t (by decide) ?_ | refine iteB_f (by decide) ?_ | (refine Duo.mk (by first | omega | exact rfl | decide) ?_; intros) | (refine Duo.mk (Clo.mk (by kernel_rfl)) ?_; intros)))
      rw [slP_zero]
      have hq : RowsAt EV.cells 7 H3 q (xs.take N) := S3.rowsAt (E := 36) (n := N) (k := qc) (by simp)
      refine gives_i S3 (same_ok hq (RowsAt.pre (hR.ext E03) N) (by rw [List.length_take]; omega) (by omega)) fun H4 E4 S4 => ?_
      clear S3 S2
      (repeat (first | (refine Step.go ?_; intros) | refine iteB_t (by decide) ?_ | refine iteB_f (by decide) ?_ | (refine Duo.mk (by first | omega | exact rfl | decide) ?_; intros) | (refine Duo.mk (Clo.mk (by kernel_rfl)) ?_; intros)))
      have E04 := E03.trans E4
      have R4 : RowsC H p EV.cells 7 xs := ⟨hR.ext E⟩
      refine F5.L1_step ?_
      unfold F5.L1n
      refine iteB_i (fun h5 => ?_) (fun h5 => ?_)
      · have hNn : N = xs.length := by have := eq_of_beq h5; omega
        have h0 := hfull (by omega)
        (repeat (first | (refine Step.go ?_; intros) | refine iteB_t (by decide) ?_ | refine iteB_f (by decide) ?_ | (refine Duo.mk (by first | omega | exact rfl | decide) ?_; intros) | (refine Duo.mk (Clo.mk (by kernel_rfl)) ?_; intros)))
        refine iteB_t (by rw [h0]; rfl) ?_
        exact live_end E04
      · have hNn : N < xs.length := by
          have : N ≠ xs.length := by
            intro h6; rw [h6, hn] at h5; simp at h5
          omega
        obtain ⟨hp, x, y, hx, hy, hxy, hmx⟩ := hpart hNn
        have hI1 := HasI.nat hx
        have hI2 := HasI.nat hy
        have eI : IntKind.wrap .i64 (((N : Nat) : Int) - (1 : Int)) = ((N - 1 : Nat) : Int) := by
          rw [wr64 (by omega) (by omega)]; omega
        rw [eI]
        refine iteB_t (by simp; omega) ?_
        refine R4.idx hn ⟨by omega, by omega, ?_⟩
        intro a ha
        subst ha
        (repeat (first | (refine Step.go ?_; intros) | refine iteB_t (by decide) ?_ | refine iteB_f (by decide) ?_ | (refine Duo.mk (by first | omega | exact rfl | decide) ?_; intros) | (refine Duo.mk (Clo.mk (by kernel_rfl)) ?_; intros)))
        refine iteB_t (decide_eq_true hxy) ?_
        (repeat (first | (refine Step.go ?_; intros) | refine iteB_t (by decide) ?_ | refine iteB_f (by decide) ?_ | (refine Duo.mk (by first | omega | exact rfl | decide) ?_; intros) | (refine Duo.mk (Clo.mk (by kernel_rfl)) ?_; intros)))
        refine iteB_t (by rw [hmx]; simp) ?_
        exact live_end E04
    | succ k ih =>
      intro i H hi hle E
      obtain ⟨x, hx⟩ : ∃ x, xs[i]? = some x := get_of (by omega)
      have hI := HasI.nat hx
      have R0 : RowsC H p EV.cells 7 xs := ⟨hR.ext E⟩
      have next : ∀ H', ExtH H0 H' → i < 4000 → F5.L2 p n c p n c (n : Nat) (i : Nat) H' (Gives (.bool true) H0) := by
        intro H' E' hlt
        refine F5.L2_step ?_
        unfold F5.L2n
        rw [wr64 (by omega) (by omega), show ((i : Nat) : Int) + 1 = ((i + 1 : Nat) : Int) by omega]
        exact ih (i + 1) H' (by omega) (by omega) E'
      refine F5.L0_step ?_
      unfold F5.L0n
      refine iteB_t (by simp; omega) ?_
      refine R0.idx hn ⟨by omega, by omega, ?_⟩
      intro a ha
      subst ha
      have S0 := Sat.start H
      (repeat (first | (refine Step.go ?_; intros) | refine iteB_t (by decide) ?_ | refine iteB_f (by decide) ?_ | (refine Duo.mk (by first | omega | exact rfl | decide) ?_; intros) | (refine Duo.mk (Clo.mk (by kernel_rfl)) ?_; intros)))
      rename_i H1 S1
      have E1 : ExtH H H1 := Sat.grown
      clear S0
      have E01 := E.trans E1
      refine iteB_i (fun h => live_end E01) (fun h => ?_)
      have hlt : i < 4000 := by have := of_decide_eq_false h; omega
      refine iteB_i (fun h1 => ?_) (fun h1 => next H1 E01 hlt)
      have h1 := of_decide_eq_true h1
      obtain ⟨y, hy⟩ : ∃ y, xs[i - 1]? = some y := get_of (by omega)
      have hI2 := HasI.nat hy
      have eI : IntKind.wrap .i64 (((i : Nat) : Int) - (1 : Int)) = ((i - 1 : Nat) : Int) := by
        rw [wr64 (by omega) (by omega)]; omega
      rw [eI]
      (repeat (first | (refine Step.go ?_; intros) | refine iteB_t (by decide) ?_ | refine iteB_f (by decide) ?_ | (refine Duo.mk (by first | omega | exact rfl | decide) ?_; intros) | (refine Duo.mk (Clo.mk (by kernel_rfl)) ?_; intros)))
      refine iteB_i (fun h => live_end E01) (fun h => next H1 E01 hlt)
  exact loop n 0 H1 (by omega) (by omega) E1
end
end Go.Proofs.YtobolifgehagfaaGreat

set_option linter.unusedVariables false
set_option linter.unusedSimpArgs false
set_option linter.unnecessarySimpa false
namespace Go.Proofs.YtobolifgehagfaaGreat
open Go Go.Den Go.Proofs
/-! FnGroupByKey. -/
section
variable {H H0 : Heap} {l : List HP}
theorem same_num {xs : List Int} {a b : Option Addr} {n ac bc : Nat} (ha : RowsAt intC 1 H a xs) (hb : RowsAt intC 1 H b xs) (hn : xs.length = n) (hl : n ≤ 1000000) : CallsH Tryz.prog 30 ⟨[.slice a n ac, .slice b n bc]⟩ H (Gives (.bool true) H) := by
  have S := Sat.start H
  refine F30.calls ?_
  unfold F30.go
  refine iteB_f (by simp) ?_
  have Ra : RowsC H a intC 1 xs := ⟨ha⟩
  have Rb : RowsC H b intC 1 xs := ⟨hb⟩
  have loop : ∀ (k i : Nat), i + k = n → F30.L0 a n ac b n bc (n : Nat) (i : Nat) H (Gives (.bool true) H) := by
    intro k
    induction k with
    | zero =>
      intro i hi
      refine F30.L0_step ?_
      unfold F30.L0n
      refine iteB_f (decide_eq_false (by omega)) ?_
      exact ⟨rfl, ExtH.refl _⟩
    | succ k ih =>
      intro i hi
      obtain ⟨x, hx⟩ : ∃ x, xs[i]? = some x := get_of (by omega)
      have hI := HasI.nat hx
      refine F30.L0_step ?_
      unfold F30.L0n
      refine iteB_t (decide_eq_true (by omega)) ?_
      refine Ra.idx hn ⟨by omega, by omega, ?_⟩
      intro a1 h1
      subst h1
      refine Rb.idx hn ⟨by omega, by omega, ?_⟩
      intro b1 h2
      subst h2
      (repeat (first | (refine Step.go ?_; intros) | refine iteB_t (by decide) ?_ | refine iteB_f (by decide) ?_ | (refine Duo.mk (by first | omega | exact rfl | decide) ?_; intros) | (refine Duo.mk (Clo.mk (by kernel_rfl)) ?_; intros)))
      refine iteB_f (by simp) ?_
      rw [wr64 (by omega) (by omega), show ((i : Nat) : Int) + 1 = ((i + 1 : Nat) : Int) by omega]
      exact ih (i + 1) (by omega)
  exact loop n 0 (by omega)
theorem same_key {xs : List Int} {a b : Option Addr} {n ac bc : Nat} (ha : RowsAt intC 1 H a xs) (hb : RowsAt intC 1 H b xs) (hn : xs.length = n) (hl : n ≤ 1000000) : CallsH Tryz.prog 17 ⟨[.agg ⟨[.bool false, .int .i64 0, .slice a n ac, .slice none 0 0]⟩, .agg ⟨[.bool false, .int .i64 0, .slice b n bc, .slice none 0 0]⟩]⟩ H (Gives (.bool true) H) := by
  have S := Sat.start H
  refine F17.calls ?_
  unfold F17.go
  (repeat (first | (refine Step.go ?_; intros) | refine iteB_t (by decide) ?_ | refine iteB_f (by decide) ?_ | (refine Duo.mk (by first | omega | exact rfl | decide) ?_; intros) | (refine Duo.mk (Clo.mk (by kernel_rfl)) ?_; intros)))
  rename_i r H1 S1 r1 H2 S2
  have E2 : ExtH H H2 := Sat.grown
  refine gives_i S2 (same_num (ha.ext E2) (hb.ext E2) hn hl) fun H3 E3 S3 => ?_
  clear S S1 S2
  have E4 := E2.trans E3
  (repeat (first | (refine Step.go ?_; intros) | refine iteB_t (by decide) ?_ | refine iteB_f (by decide) ?_ | (refine Duo.mk (by first | omega | exact rfl | decide) ?_; intros) | (refine Duo.mk (Clo.mk (by kernel_rfl)) ?_; intros)))
  refine F17.L0_step ?_
  unfold F17.L0n
  (repeat (first | (refine Step.go ?_; intros) | refine iteB_t (by decide) ?_ | refine iteB_f (by decide) ?_ | (refine Duo.mk (by first | omega | exact rfl | decide) ?_; intros) | (refine Duo.mk (Clo.mk (by kernel_rfl)) ?_; intros)))
  refine F17.L1_step ?_
  unfold F17.L1n
  refine iteB_f (by decide) ?_
  exact ⟨rfl, E4⟩
theorem lastKey {xs : List Wa} {k : ByteArray} (hg : Good xs 4 k []) (hks : k.size ≤ 2147483647) : LastQ xs (askC 4 k none 0 0) (fun a X => ∃ q c ys, a = ⟨false, 0, q, ys.length, c, none, 0, 0⟩ ∧ ys.Perm (seenI (allW xs) k) ∧ (ys.Pairwise fun a b => a < b) ∧ X = sl intC 2 1 q ys.length c ys) := by
  intro H z km tp wm im sr l A
  have hl : (allW xs).length ≤ 255 := by
    have := fold_len xs []
    have := hg.few
    unfold allW
    simp only [List.length_nil] at *
    omega
  refine (opKey2_ok (hg.key rfl) (by omega) hl A).mono ?_
  rintro e H1 ⟨q, c, ys, rfl, h1, h2, S⟩
  exact ⟨_, _, rfl, ⟨q, c, ys, rfl, h1, h2, rfl⟩, S⟩
end
end Go.Proofs.YtobolifgehagfaaGreat

set_option linter.unusedVariables false
set_option linter.unusedSimpArgs false
set_option linter.unnecessarySimpa false
namespace Go.Proofs.YtobolifgehagfaaGreat
open Go Go.Den Go.Proofs
/-! FnGroupByKey: the whole. -/
section
variable {H H0 : Heap} {l : List HP} {xs : List Wa} {k : ByteArray} {p : Option Addr} {n c : Nat}
abbrev wnO (b : Bool) (i : Int) (q : Option Addr) (qn qc : Nat) (t : Option Addr) (tn tc : Nat) : Obj := .cells ⟨[.bool b, .int .i64 i, .slice q qn qc, .slice t tn tc]⟩ 55
theorem cr_nil : CrI [] [] := ⟨List.Perm.nil, List.Pairwise.nil⟩
theorem seenI_perm {C L : List Wa} (h : C.Perm L) : (seenI C k).Perm (seenI L k) := by
  unfold seenI
  exact (h.filter _).map _
theorem seenI_srt {C : List Wa} (h : IdS C) : (seenI C k).Pairwise fun a b => a < b := by
  unfold seenI
  rw [List.pairwise_map]
  exact h.sublist List.filter_sublist
theorem grLast_ok (hR : RowsAt Wa.cells 5 H0 p xs) (hn : xs.length = n) (hb : n ≤ 2147483647) (hz : ∀ x ∈ xs, WaSz x) (hks : k.size ≤ 2147483647) :
    CallsH Tryz.prog 8 ⟨[.slice p n c, .agg ⟨askC 4 k none 0 0⟩]⟩ H0 (Gives (.bool true) H0) := by
  have S := Sat.start H0
  refine F8.calls ?_
  unfold F8.go
  (repeat (first | (refine Step.go ?_; intros) | refine iteB_t (by decide) ?_ | refine iteB_f (by decide) ?_ | (refine Duo.mk (by first | omega | exact rfl | decide) ?_; intros) | (refine Duo.mk (Clo.mk (by kernel_rfl)) ?_; intros)))
  rename_i r0 H1 S1
  have E1 : ExtH H0 H1 := Sat.grown
  refine callD_i (grAfter_ok (xs := xs) (kd := 4) (qk := k) (ep := none) (en := 0) (ec := 0) (evs := []) (.inl rfl) (hR.ext E1) (RowsAt.nil) rfl hn hb) ?_
  rintro _ H2 ⟨q, qc, b, rfl, hg, S2⟩
  have E2 : ExtH H0 H2 := E1.trans (S2.old (by simp))
  clear S S1
  (repeat (first | (refine Step.go ?_; intros) | refine iteB_t (by decide) ?_ | refine iteB_f (by decide) ?_ | (refine Duo.mk (by first | omega | exact rfl | decide) ?_; intros) | (refine Duo.mk (Clo.mk (by kernel_rfl)) ?_; intros)))
  refine iteB_i (fun h => live_end E2) (fun h => ?_)
  have hg := hg (by simpa using h)
  have hx : ∀ x ∈ xs, WaOk x := fun x hx => ⟨by have := (hz x hx).key; omega, by have := (hz x hx).e; omega, (hg.pr x hx).pos, (hg.pr x hx).lt⟩
  have hfew := hg.few
  refine callD_i (group2_ok (xs := xs) (n := n + 1) (by omega) (by omega) hx (lastKey hg hks) S2) ?_
  rintro _ H3 ⟨gq, gc, av, a, X, rfl, hal, ha, ⟨q1, c1, ys, rfl, hy1, hy2, rfl⟩, S3⟩
  clear S2
  obtain ⟨ra, oa, rfl⟩ := S3.slSome (f := idC) (E := 30) (z := 10) (p := q) (n := n + 1) (c := qc) (xs := opsL xs 4 k none 0 0) (by simp) (by omega)
  obtain ⟨rb, ob, rfl⟩ := S3.slSome (f := AR.cells) (E := 55) (z := 4) (p := gq) (n := n + 1) (c := gc) (xs := av) (by simp) (by omega)
  (repeat (first | (refine Step.go ?_; intros) | refine iteB_t (by decide) ?_ | refine iteB_f (by decide) ?_ | (refine Duo.mk (by first | omega | exact rfl | decide) ?_; intros) | (refine Duo.mk (Clo.mk (by kernel_rfl)) ?_; intros)))
  rename_i w H4 S4 wn H5 S5
  have S6 : Sat H5 (pt w (crO none 0 0) :: gwL none 0 0 [] :: pt wn (wnO false 0 none 0 0 none 0 0) :: sl AR.cells 55 4 (some ⟨rb, ob, none⟩) (n + 1) gc av :: sl intC 2 1 q1 ys.length c1 ys :: sl idC 30 10 (some ⟨ra, oa, none⟩) (n + 1) qc (opsL xs 4 k none 0 0) :: Den.old H1 :: []) := by
    refine S5.to (Ent.trans (Ent.slNil (f := Wa.cells) (E := 28) (z := 5) Ent.refl) ?_)
    iterate 6 (apply Ent.pick; (focus (repeat (first | exact Sel.here | apply Sel.there))))
    exact Ent.refl
  clear S3 S4 S5
  have loop : ∀ (j i : Nat) (b : Bool) (v : Int) (uq : Option Addr) (un uc : Nat) (ut : Option Addr) (utn utc : Nat) (H : Heap), i + j = n → CrAt w (allW (xs.take i)) (pt wn (wnO b v uq un uc ut utn utc) :: sl AR.cells 55 4 (some ⟨rb, ob, none⟩) (n + 1) gc av :: sl intC 2 1 q1 ys.length c1 ys :: sl idC 30 10 (some ⟨ra, oa, none⟩) (n + 1) qc (opsL xs 4 k none 0 0) :: Den.old H1 :: []) H →
      F8.L0 (some ⟨ra, oa, none⟩) (n + 1) qc (some ⟨rb, ob, none⟩) (n + 1) gc w wn (some ⟨ra, oa, none⟩) (n + 1) qc (((n + 1 : Nat) : Nat) : Int) (i : Nat) H (Gives (.bool true) H0) := by
    intro j
    induction j with
    | zero =>
      intro i b v uq un uc ut utn utc H hi A
      obtain rfl : i = n := by omega
      obtain ⟨cq, cn, cc, C, hC, hcl, S⟩ := A
      have et : xs.take i = xs := by rw [← hn, List.take_length]
      rw [et] at hC
      have hr : (opsL xs 4 k none 0 0)[i]? = some (askC 4 k none 0 0) := by rw [← hn]; simp
      have hI := HasI.nat hr
      refine F8.L0_step ?_
      unfold F8.L0n
      refine iteB_t (decide_eq_true (by omega)) ?_
      (repeat (first | (refine Step.go ?_; intros) | refine iteB_t (by decide) ?_ | refine iteB_f (by decide) ?_ | (refine Duo.mk (by first | omega | exact rfl | decide) ?_; intros) | (refine Duo.mk (Clo.mk (by kernel_rfl)) ?_; intros)))
      have SA := ‹Sat _ (pt _ (.cells ⟨askC 4 k none 0 0⟩ _) :: _)›
      rename_i HA _
      have SB : Sat HA (pt w (crO cq cn cc) :: gwL cq cn cc C :: pt wn (wnO b v uq un uc ut utn utc) :: sl AR.cells 55 4 (some ⟨rb, ob, none⟩) (i + 1) gc av :: sl intC 2 1 q1 ys.length c1 ys :: sl idC 30 10 (some ⟨ra, oa, none⟩) (i + 1) qc (opsL xs 4 k none 0 0) :: Den.old H1 :: []) := by
        refine SA.to ?_
        iterate 7 (apply Ent.pick; (focus (repeat (first | exact Sel.here | apply Sel.there))))
        exact Ent.drop .refl
      clear SA S
      have hcn : cn ≤ 1000 := by
        rw [← hcl, hC.perm.length_eq]
        have := fold_len xs []
        simp only [List.length_nil] at this
        unfold allW
        omega
      refine callD_i (doKey_ok (k := k) (by omega) SB) ?_
      rintro _ HB ⟨q2, c2, rfl, SC⟩
      clear SB
      have hys : ys = seenI C k := sorted_eq (hy1.trans (seenI_perm hC.perm).symm) hy2 (seenI_srt hC.srt)
      rw [← hys] at SC ⊢
      (repeat (first | (refine Step.go ?_; intros) | refine iteB_t (by decide) ?_ | refine iteB_f (by decide) ?_ | (refine Duo.mk (by first | omega | exact rfl | decide) ?_; intros) | (refine Duo.mk (Clo.mk (by kernel_rfl)) ?_; intros)))
      have SD := ‹Sat _ (_ :: _)›
      rename_i HD _
      have SE : Sat HD (pt wn (wnO false 0 q2 ys.length c2 none 0 0) :: sl AR.cells 55 4 (some ⟨rb, ob, none⟩) (i + 1) gc av :: sl intC 2 1 q1 ys.length c1 ys :: sl intC 2 1 q2 ys.length c2 ys :: Den.old H1 :: []) := by
        refine SD.to ?_
        iterate 5 (apply Ent.pick; (focus (repeat (first | exact Sel.here | apply Sel.there))))
        exact Ent.nil
      clear SC SD
      have ED : ExtH H0 HD := E1.trans (SE.old (by simp))
      have hyl : ys.length ≤ 1000 := by
        rw [hys]
        unfold seenI
        rw [List.length_map]
        have := List.length_filter_le (fun x => seesW x k) C
        omega
      rw [wr64 (by omega) (by omega)]
      refine F8.L0_step ?_
      unfold F8.L0n
      refine iteB_f (decide_eq_false (by omega)) ?_
      refine iteB_t (by simp) ?_
      have eI : IntKind.wrap .i64 ((((i + 1 : Nat) : Nat) : Int) - (1 : Int)) = ((i : Nat) : Int) := by rw [wr64 (by omega) (by omega)]; omega
      rw [eI]
      rw [Nat.add_sub_cancel] at ha
      have hIa := HasI.nat ha
      (repeat (first | (refine Step.go ?_; intros) | refine iteB_t (by decide) ?_ | refine iteB_f (by decide) ?_ | (refine Duo.mk (by first | omega | exact rfl | decide) ?_; intros) | (refine Duo.mk (Clo.mk (by kernel_rfl)) ?_; intros)))
      refine gives_i SE (same_key (xs := ys) (n := ys.length) (SE.rowsAt (E := 2) (n := ys.length) (k := c1) (by simp)) (SE.rowsAt (E := 2) (n := ys.length) (k := c2) (by simp)) rfl (by omega)) fun HF EF SF => ?_
      (repeat (first | (refine Step.go ?_; intros) | refine iteB_t (by decide) ?_ | refine iteB_f (by decide) ?_ | (refine Duo.mk (by first | omega | exact rfl | decide) ?_; intros) | (refine Duo.mk (Clo.mk (by kernel_rfl)) ?_; intros)))
      exact live_end (ED.trans EF)
    | succ j ih =>
      intro i b v uq un uc ut utn utc H hi A
      obtain ⟨cq, cn, cc, C, hC, hcl, S⟩ := A
      obtain ⟨x, hxi⟩ : ∃ x, xs[i]? = some x := get_of (by omega)
      have hr : (opsL xs 4 k none 0 0)[i]? = some (addC x) := by
        rw [List.getElem?_append_left (by rw [List.length_map]; omega), List.getElem?_map, hxi]; rfl
      have hI := HasI.nat hr
      have hlen : cn ≤ i := by
        rw [← hcl, hC.perm.length_eq]
        have := fold_len (xs.take i) []
        rw [List.length_take] at this
        simp only [List.length_nil] at this
        unfold allW
        omega
      refine F8.L0_step ?_
      unfold F8.L0n
      refine iteB_t (decide_eq_true (by omega)) ?_
      (repeat (first | (refine Step.go ?_; intros) | refine iteB_t (by decide) ?_ | refine iteB_f (by decide) ?_ | (refine Duo.mk (by first | omega | exact rfl | decide) ?_; intros) | (refine Duo.mk (Clo.mk (by kernel_rfl)) ?_; intros)))
      have SA := ‹Sat _ (pt _ (.cells ⟨addC x⟩ _) :: _)›
      rename_i HA _
      have SB : Sat HA (pt w (crO cq cn cc) :: gwL cq cn cc C :: pt wn (wnO b v uq un uc ut utn utc) :: sl AR.cells 55 4 (some ⟨rb, ob, none⟩) (n + 1) gc av :: sl intC 2 1 q1 ys.length c1 ys :: sl idC 30 10 (some ⟨ra, oa, none⟩) (n + 1) qc (opsL xs 4 k none 0 0) :: Den.old H1 :: []) := by
        refine SA.to ?_
        iterate 7 (apply Ent.pick; (focus (repeat (first | exact Sel.here | apply Sel.there))))
        exact Ent.drop .refl
      clear SA S
      refine callD_i (doAdd_ok (x := x) hC (by omega) SB) ?_
      rintro _ HB ⟨⟨a2, rfl⟩, cq2, cn2, cc2, C2, hC2, hcl2, SC⟩
      clear SB
      (repeat (first | (refine Step.go ?_; intros) | refine iteB_t (by decide) ?_ | refine iteB_f (by decide) ?_ | (refine Duo.mk (by first | omega | exact rfl | decide) ?_; intros) | (refine Duo.mk (Clo.mk (by kernel_rfl)) ?_; intros)))
      have SD := ‹Sat _ (_ :: _)›
      rename_i HD _
      rw [wr64 (by omega) (by omega), show ((i : Nat) : Int) + 1 = ((i + 1 : Nat) : Int) by omega]
      refine ih (i + 1) a2.ok a2.n a2.q a2.qn a2.qc a2.t a2.tn a2.tc _ (by omega) ⟨cq2, cn2, cc2, C2, ?_, hcl2, SD.to ?_⟩
      · rw [List.take_add_one, hxi]
        unfold allW at hC2 ⊢
        rw [List.foldl_append]
        exact hC2
      · iterate 7 (apply Ent.pick; (focus (repeat (first | exact Sel.here | apply Sel.there))))
        exact Ent.refl
  exact loop n 0 false 0 none 0 0 none 0 0 H5 (by omega) ⟨none, 0, 0, [], cr_nil, rfl, S6⟩
theorem groupByKey_ok (hR : RowsAt Wa.cells 5 H0 p xs) (hn : xs.length = n) : CallsH Tryz.prog 4 ⟨[.slice p n c, .string k]⟩ H0 (Gives (.bool true) H0) := by
  refine F4.calls ?_
  unfold F4.go
  refine callD_i (fit20 hR hn) ?_
  rintro _ H1 ⟨E1, b1, rfl, hb1⟩
  refine ⟨_, rfl, ?_⟩
  refine iteB_i (fun h => ⟨rfl, E1⟩) (fun h => ?_)
  obtain ⟨hnb, hz⟩ := hb1 (by simpa using h)
  refine iteB_i (fun h => ⟨rfl, E1⟩) (fun h => ?_)
  have hks := of_decide_eq_false h
  refine gives_i (Sat.start H1) (grLast_ok (hR.ext E1) hn hnb hz (by omega)) fun H2 E2 S2 => ?_
  refine ⟨_, rfl, ?_⟩
  exact ⟨rfl, E1.trans E2⟩
end
end Go.Proofs.YtobolifgehagfaaGreat
