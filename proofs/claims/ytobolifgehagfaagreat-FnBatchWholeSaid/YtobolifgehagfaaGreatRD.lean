/- What functions of this seat do, each proved by a walk; no condition. -/
import Derived.Test.YtobolifgehagfaaGreatRC
set_option linter.unusedVariables false
set_option linter.unusedSimpArgs false
set_option linter.unnecessarySimpa false
namespace Go.Proofs.YtobolifgehagfaaGreat
open Go Go.Den Go.Proofs
/-! A batch of one watcher. -/
/-- A batch. -/
structure BT where
  evs : List PE
  revs : Int
  more : Int
def lastM (l : List PE) : Int := match l.getLast? with | some p => p.2.m | none => 0
def BT.add (b : BT) (x : PE) : BT :=
  if b.revs > 1000 then b
  else if b.evs.length = 0 then ⟨b.evs ++ [x], 1, b.more⟩
  else if x.2.m > lastM b.evs then (if b.revs + 1 > 1000 then ⟨b.evs, b.revs + 1, x.2.m⟩ else ⟨b.evs ++ [x], b.revs + 1, b.more⟩)
  else ⟨b.evs ++ [x], b.revs, b.more⟩
abbrev btO (b : BT) (q : Option Addr) (c : Nat) : Obj := .cells ⟨[.slice q b.evs.length c, .int .i64 b.revs, .int .i64 b.more]⟩ 80
section
variable {H H0 : Heap} {l : List HP}
theorem apEv {K : Option Addr → Nat → Nat → Heap → Prop} {q : Option Addr} {c r : Nat} {ps : List PE} {x : PE} {m : List HP} (hb : ps.length ≤ 2147483647) (S : Sat H (sl peC 77 1 q ps.length c ps :: pt r (.cells ⟨[pA x.1]⟩ 77) :: m))
    (k : ∀ q' c' H1, Sat H1 (sl peC 77 1 q' (ps ++ [x]).length c' (ps ++ [x]) :: m) → K q' (ps ++ [x]).length c' H1) : apD H 1 8 [.pointer none] 77 q ps.length c (some ⟨r, 0, none⟩) 1 K := by
  refine S.slApp (ys := [x]) (d := 1) ?_ rfl (by simp) (by simp [isCell]) rfl (by decide) (by omega) fun q' c' H1 S1 => ?_
  · simp only [List.flatMap_cons, List.flatMap_nil, List.append_nil]
    exact cellsAt_one (S.at_ (List.mem_cons_of_mem _ (List.mem_cons_self ..)))
  · have e : ps.length + 1 = (ps ++ [x]).length := by simp
    rw [e] at S1 ⊢
    exact k q' c' H1 (S1.to (Ent.cons (Ent.drop Ent.refl)))
theorem add_ok {g : PH} {b : BT} {x : PE} {eb c : Nat} {q : Option Addr} (hx : EvG g x.1 x.2) (hb : b.evs.length ≤ 2147483647) (hr : 0 ≤ b.revs ∧ b.revs ≤ 2147483647) (hall : ∀ p ∈ b.evs, EvG g p.1 p.2)
    (S : Sat H (pt eb (btO b q c) :: sl peC 77 1 q b.evs.length c b.evs :: has g :: l)) :
    CallsH Tryz.prog 33 ⟨[pA eb, pA x.1]⟩ H (fun e H1 => e = .returned (.tuple ⟨[]⟩) ∧ ∃ q' c', Sat H1 (pt eb (btO (b.add x) q' c') :: sl peC 77 1 q' (b.add x).evs.length c' (b.add x).evs :: has g :: l)) := by
  have last : ∀ (b' : BT) (H : Heap), b'.evs = b.evs → Sat H (pt eb (btO b' q c) :: sl peC 77 1 q b.evs.length c b.evs :: has g :: l) → F33.L0 (some (aA eb)) (some (aA x.1)) H (fun e H1 => e = .returned (.tuple ⟨[]⟩) ∧ ∃ q' c', Sat H1 (pt eb (btO ⟨b.evs ++ [x], b'.revs, b'.more⟩ q' c') :: sl peC 77 1 q' (b.evs ++ [x]).length c' (b.evs ++ [x]) :: has g :: l)) := by
    intro b' H he S
    refine F33.L0_step ?_
    unfold F33.L0n
    obtain ⟨ev, rv, mo⟩ := b'
    obtain rfl : ev = b.evs := he
    (repeat (first | (refine Step.go ?_; intros) | refine iteB_t (by decide) ?_ | refine iteB_f (by decide) ?_ | (refine Duo.mk (by first | omega | exact rfl | decide) ?_; intros) | (refine Duo.mk (Clo.mk (by kernel_rfl)) ?_; intros)))
    rename_i r1 H1 S1
    refine apEv (x := x) (m := pt eb (btO ⟨b.evs, rv, mo⟩ q c) :: has g :: l) hb (S1.to ?_) fun q' c' H2 S2 => ?_
    · iterate 3 (apply Ent.pick; (focus (repeat (first | exact Sel.here | apply Sel.there))))
      exact Ent.refl
    clear S1 S
    (repeat (first | (refine Step.go ?_; intros) | refine iteB_t (by decide) ?_ | refine iteB_f (by decide) ?_ | (refine Duo.mk (by first | omega | exact rfl | decide) ?_; intros) | (refine Duo.mk (Clo.mk (by kernel_rfl)) ?_; intros)))
    have S9 := ‹Sat _ _›
    refine ⟨rfl, q', c', S9.to ?_⟩
    iterate 2 (apply Ent.pick; (focus (repeat (first | exact Sel.here | apply Sel.there))))
    exact Ent.refl
  refine F33.calls ?_
  unfold F33.go
  (repeat (first | (refine Step.go ?_; intros) | refine iteB_t (by decide) ?_ | refine iteB_f (by decide) ?_ | (refine Duo.mk (by first | omega | exact rfl | decide) ?_; intros) | (refine Duo.mk (Clo.mk (by kernel_rfl)) ?_; intros)))
  refine iteB_i (fun h => ?_) (fun h => ?_)
  · have h := of_decide_eq_true h
    refine ⟨rfl, q, c, ?_⟩
    have : b.add x = b := if_pos h
    rw [this]; exact S
  have h := of_decide_eq_false h
  (repeat (first | (refine Step.go ?_; intros) | refine iteB_t (by decide) ?_ | refine iteB_f (by decide) ?_ | (refine Duo.mk (by first | omega | exact rfl | decide) ?_; intros) | (refine Duo.mk (Clo.mk (by kernel_rfl)) ?_; intros)))
  refine iteB_i (fun h0 => ?_) (fun h0 => ?_)
  · have h0 : b.evs.length = 0 := by simpa using h0
    have e : b.add x = ⟨b.evs ++ [x], 1, b.more⟩ := by unfold BT.add; rw [if_neg h, if_pos h0]
    rw [e]
    (repeat (first | (refine Step.go ?_; intros) | refine iteB_t (by decide) ?_ | refine iteB_f (by decide) ?_ | (refine Duo.mk (by first | omega | exact rfl | decide) ?_; intros) | (refine Duo.mk (Clo.mk (by kernel_rfl)) ?_; intros)))
    have S9 := ‹Sat _ (pt _ (.cells ⟨[pA x.1]⟩ _) :: _)›
    refine apEv (x := x) (m := pt eb (.cells ⟨[.slice q b.evs.length c, .int .i64 1, .int .i64 b.more]⟩ 80) :: has g :: l) hb (S9.to ?_) fun q' c' H2 S2 => ?_
    · iterate 3 (apply Ent.pick; (focus (repeat (first | exact Sel.here | apply Sel.there))))
      exact Ent.refl
    clear S9 S
    (repeat (first | (refine Step.go ?_; intros) | refine iteB_t (by decide) ?_ | refine iteB_f (by decide) ?_ | (refine Duo.mk (by first | omega | exact rfl | decide) ?_; intros) | (refine Duo.mk (Clo.mk (by kernel_rfl)) ?_; intros)))
    have S9 := ‹Sat _ _›
    refine ⟨rfl, q', c', S9.to ?_⟩
    iterate 2 (apply Ent.pick; (focus (repeat (first | exact Sel.here | apply Sel.there))))
    exact Ent.refl
  have h0 : ¬ b.evs.length = 0 := by
    intro h1; rw [h1] at h0; cases h0
  obtain ⟨y, hy⟩ : ∃ y, b.evs[b.evs.length - 1]? = some y := get_of (by omega)
  have hl : lastM b.evs = y.2.m := by
    unfold lastM
    rw [List.getLast?_eq_getElem?, hy]
  have hI := HasI.nat hy
  have eI : IntKind.wrap .i64 (((b.evs.length : Nat) : Int) - (1 : Int)) = ((b.evs.length - 1 : Nat) : Int) := by
    rw [wr64 (by omega) (by omega)]; omega
  have hs : PH.sub g (PH.of H) := HasG.sub (l := pt eb (btO b q c) :: sl peC 77 1 q b.evs.length c b.evs :: has g :: l) inferInstance S
  obtain ⟨kv, kb, kc, vb, vc, kr, vr, kf, vf, p1, p2, p3, p4⟩ := (hall y (List.mem_of_getElem? hy)).out
  obtain ⟨kv', kb', kc', vb', vc', kr', vr', kf', vf', p1', p2', p3', p4'⟩ := hx.out
  have B1 : Blc H y.1 _ := ⟨hs _ _ p1⟩
  have B2 : Blc H kv _ := ⟨hs _ _ p2⟩
  have B3 : Blc H x.1 _ := ⟨hs _ _ p1'⟩
  have B4 : Blc H kv' _ := ⟨hs _ _ p2'⟩
  (iterate 4 (refine Step.go ?_; intros))
  rw [eI]
  refine Sat.idx (f := peC) (E := 77) (z := 1) S ⟨by omega, by omega, fun r0 o0 hr0 => ?_⟩
  subst hr0
  (repeat (first | (refine Step.go ?_; intros) | refine iteB_t (by decide) ?_ | refine iteB_f (by decide) ?_ | (refine Duo.mk (by first | omega | exact rfl | decide) ?_; intros) | (refine Duo.mk (Clo.mk (by kernel_rfl)) ?_; intros)))
  refine iteB_i (fun h1 => ?_) (fun h1 => ?_)
  · have h1 : x.2.m > y.2.m := of_decide_eq_true h1
    (repeat (first | (refine Step.go ?_; intros) | refine iteB_t (by decide) ?_ | refine iteB_f (by decide) ?_ | (refine Duo.mk (by first | omega | exact rfl | decide) ?_; intros) | (refine Duo.mk (Clo.mk (by kernel_rfl)) ?_; intros)))
    rename_i H2 S2
    rw [wr64 (by omega) (by omega)] at S2 ⊢
    refine iteB_i (fun h2 => ?_) (fun h2 => ?_)
    · have h2 := of_decide_eq_true h2
      have e : b.add x = ⟨b.evs, b.revs + 1, x.2.m⟩ := by unfold BT.add; rw [if_neg h, if_neg h0, hl, if_pos h1, if_pos h2]
      rw [e]
      clear S
      (repeat (first | (refine Step.go ?_; intros) | refine iteB_t (by decide) ?_ | refine iteB_f (by decide) ?_ | (refine Duo.mk (by first | omega | exact rfl | decide) ?_; intros) | (refine Duo.mk (Clo.mk (by kernel_rfl)) ?_; intros)))
      have S9 := ‹Sat _ _›
      exact ⟨rfl, _, c, S9⟩
    · have h2 := of_decide_eq_false h2
      have e : b.add x = ⟨b.evs ++ [x], b.revs + 1, b.more⟩ := by unfold BT.add; rw [if_neg h, if_neg h0, hl, if_pos h1, if_neg h2]
      rw [e]
      exact last ⟨b.evs, b.revs + 1, b.more⟩ H2 rfl S2
  · have h1 : ¬ x.2.m > y.2.m := of_decide_eq_false h1
    have e : b.add x = ⟨b.evs ++ [x], b.revs, b.more⟩ := by unfold BT.add; rw [if_neg h, if_neg h0, hl, if_neg h1]
    rw [e]
    exact last b H rfl S
end
end Go.Proofs.YtobolifgehagfaaGreat
