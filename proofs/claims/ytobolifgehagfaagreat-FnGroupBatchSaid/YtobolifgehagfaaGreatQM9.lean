/- What functions of this seat do, each proved by a walk; no condition. -/
import Derived.Test.YtobolifgehagfaaGreatQM8
import Derived.Test.YtobolifgehagfaaGreatQM7
import Derived.Test.YtobolifgehagfaaGreatQM5
import Derived.Test.YtobolifgehagfaaGreatQM5
set_option linter.unusedVariables false
set_option linter.unusedSimpArgs false
set_option linter.unnecessarySimpa false
namespace Go.Proofs.YtobolifgehagfaaGreat
open Go Go.Den Go.Proofs
structure TD where
  id : Int
  q : Option Addr
  c : Nat
  rv : Int
  mo : Int
  evs : List EV
abbrev TD.cells (t : TD) : List Value := tdC t.id t.q t.evs.length t.c t.rv t.mo
def tolds : List TD → HP
  | [] => star []
  | t :: L => star [sl EV.cells 36 7 t.q t.evs.length t.c t.evs, tolds L]
theorem tolds_nil {l : List HP} : Ent l (tolds [] :: l) := Ent.star .refl
theorem tolds_snoc {t : TD} {l : List HP} : ∀ {L : List TD}, Ent (sl EV.cells 36 7 t.q t.evs.length t.c t.evs :: tolds L :: l) (tolds (L ++ [t]) :: l)
  | [] => Ent.star .refl
  | u :: L => by
    refine Ent.trans (Ent.cons (Ent.starL (m := [sl EV.cells 36 7 u.q u.evs.length u.c u.evs, tolds L]) Ent.refl)) ?_
    refine Ent.trans (m := sl EV.cells 36 7 u.q u.evs.length u.c u.evs :: sl EV.cells 36 7 t.q t.evs.length t.c t.evs :: tolds L :: l) ?_ ?_
    · iterate 3 (apply Ent.pick; (focus (repeat (first | exact Sel.here | apply Sel.there))))
      exact Ent.refl
    · refine Ent.trans (Ent.cons (tolds_snoc (L := L))) ?_
      exact Ent.star .refl
section
variable {H H0 : Heap} {l : List HP}
theorem tolds_rows : ∀ {L : List TD} {l : List HP} {t : TD}, t ∈ L → Sat H (tolds L :: l) → RowsAt EV.cells 7 H t.q t.evs
  | u :: L, l, t, h, S => by
    have S1 : Sat H ([sl EV.cells 36 7 u.q u.evs.length u.c u.evs, tolds L] ++ l) := Sat.star S
    rcases List.mem_cons.1 h with rfl | h
    · exact S1.rowsAt (E := 36) (n := t.evs.length) (k := t.c) (by simp)
    · exact tolds_rows h (S1.to (Ent.drop .refl))
theorem has_join {g1 g2 : PH} (S : Sat H (has g1 :: has g2 :: l)) : ∃ g', PH.sub g1 g' ∧ PH.sub g2 g' ∧ Sat H (has g' :: l) := by
  obtain ⟨h, h1, h2, h', h3, h4, x⟩ := S.out
  refine ⟨PH.join g1 g2, ?_, ?_, PH.join h h', ?_, ?_, x.mono ?_⟩
  · intro i o e
    unfold PH.join
    rw [e]
  · intro i o e
    unfold PH.join
    cases e1 : g1 i with
    | none => exact e
    | some y =>
      have := (PH.of_minus (h4 _ _ (h3 _ _ e))).1
      rw [h1 _ _ e1] at this
      cases this
  · intro i o e
    unfold PH.join at e ⊢
    cases e1 : g1 i with
    | none =>
      rw [e1] at e
      have e2 := h3 _ _ e
      have e3 := (PH.of_minus (h4 _ _ e2)).1
      rw [e3]
      exact e2
    | some y =>
      rw [e1] at e
      cases e
      rw [h1 _ _ e1]
  · intro i o e
    unfold PH.join at e
    split at e
    · rename_i o' e'
      cases e
      exact h2 _ _ e'
    · exact (PH.of_minus (h4 _ _ e)).2
  · intro i o e
    obtain ⟨e1, e2⟩ := PH.of_minus e
    obtain ⟨e3, e4⟩ := PH.of_minus e2
    have : PH.join h h' i = none := by
      unfold PH.join
      rw [e3]
      exact e1
    rw [PH.minus_none this]
    exact e4
theorem told2_ok {g : PH} {ps : List PE} {q : Option Addr} {n c : Nat} {id rv mo : Int} (hb : n ≤ 1000000) (hall : ∀ p ∈ ps, EvG g p.1 p.2) (hs0 : PH.sub g (PH.of H0)) (hR : RowsAt peC 1 H0 q ps) (hn : ps.length = n) :
    CallsH Tryz.prog 18 ⟨[tdV id q n c rv mo]⟩ H0 (fun e H1 => ∃ x : Option Addr × Nat, e = .returned (tdV id x.1 n x.2 rv mo) ∧ Sat H1 ([sl EV.cells 36 7 x.1 n x.2 (ps.map (·.2))] ++ [old H0])) := by
  have S := Sat.start H0
  refine F18.calls ?_
  unfold F18.go
  refine Step.go ?_
  intro r0 H1 S1
  refine Step.go ?_
  intro r1 H2 S2
  refine Step.go ?_
  refine Step.go ?_
  refine Step.go ?_
  refine Step.go ?_
  intro r2 H3 S3
  clear S S1 S2
  (repeat (first | (refine Step.go ?_; intros) | refine iteB_t (by decide) ?_ | refine iteB_f (by decide) ?_ | (refine Duo.mk (by first | omega | exact rfl | decide) ?_; intros)))
  have S4 := ‹Sat _ _›
  have loop : ∀ (k i : Nat) (q' : Option Addr) (c' : Nat) (H : Heap), i + k = n →
      Sat H (sl EV.cells 36 7 q' i c' ((ps.take i).map (·.2)) :: pt r2 (.cells ⟨tdC id q' i c' rv mo⟩ 39) :: pt r1 (.cells ⟨tdC 0 none 0 0 0 0⟩ 39) :: pt r0 (.cells ⟨tdC id q n c rv mo⟩ 61) :: [old H0]) →
      F18.L0 r0 r1 r2 (i : Nat) H (fun e H1 => ∃ x : Option Addr × Nat, e = .returned (tdV id x.1 n x.2 rv mo) ∧ Sat H1 ([sl EV.cells 36 7 x.1 n x.2 (ps.map (·.2))] ++ [old H0])) := by
    intro k
    induction k with
    | zero =>
      intro i q' c' H hi S
      obtain rfl : i = n := by omega
      rw [← hn, List.take_length] at S
      rw [hn] at S
      refine F18.L0_step ?_
      unfold F18.L0n
      (repeat (first | (refine Step.go ?_; intros) | refine iteB_t (by decide) ?_ | refine iteB_f (by decide) ?_ | (refine Duo.mk (by first | omega | exact rfl | decide) ?_; intros)))
      refine iteB_f (by simp) ?_
      (repeat (first | (refine Step.go ?_; intros) | refine iteB_t (by decide) ?_ | refine iteB_f (by decide) ?_ | (refine Duo.mk (by first | omega | exact rfl | decide) ?_; intros)))
      have S9 := ‹Sat _ _›
      refine ⟨(q', c'), rfl, S9.to ?_⟩
      iterate 1 (apply Ent.pick; (focus (repeat (first | exact Sel.here | apply Sel.there))))
      exact Ent.drop (Ent.drop (Ent.drop Ent.refl))
    | succ k ih =>
      intro i q' c' H hi S
      obtain ⟨x, hx⟩ : ∃ x, ps[i]? = some x := get_of (by omega)
      have hI := HasI.nat hx
      have E0 : ExtH H0 H := Sat.grown
      have hs : PH.sub g (PH.of H) := fun b o e => E0.block_some (hs0 b o e)
      have R0 : RowsC H0 q peC 1 ps := ⟨hR⟩
      refine F18.L0_step ?_
      unfold F18.L0n
      (repeat (first | (refine Step.go ?_; intros) | refine iteB_t (by decide) ?_ | refine iteB_f (by decide) ?_ | (refine Duo.mk (by first | omega | exact rfl | decide) ?_; intros)))
      refine iteB_t (by simp; omega) ?_
      (repeat (first | (refine Step.go ?_; intros) | refine iteB_t (by decide) ?_ | refine iteB_f (by decide) ?_ | (refine Duo.mk (by first | omega | exact rfl | decide) ?_; intros)))
      refine R0.idx hn ⟨by omega, by omega, ?_⟩
      intro a ha
      subst ha
      (repeat (first | (refine Step.go ?_; intros) | refine iteB_t (by decide) ?_ | refine iteB_f (by decide) ?_ | (refine Duo.mk (by first | omega | exact rfl | decide) ?_; intros)))
      refine gives_i S (event_ok (hall x (List.mem_of_getElem? hx)) hs) fun H1 E1 S1 => ?_
      clear S
      (repeat (first | (refine Step.go ?_; intros) | refine iteB_t (by decide) ?_ | refine iteB_f (by decide) ?_ | (refine Duo.mk (by first | omega | exact rfl | decide) ?_; intros)))
      rename_i r3 H2 S2
      have S3 := S2.bring (c := sl EV.cells 36 7 q' i c' ((ps.take i).map (·.2))) (by (repeat (first | exact Sel.here | apply Sel.there)))
      refine S3.slApp (ys := [x.2]) (q := some ⟨r3, 0, none⟩) (d := 1) ?_ rfl (by simp) (by simp [isCell]) rfl (by decide) (by omega) fun q2 c2 H3 S4 => ?_
      · simp only [List.flatMap_cons, List.flatMap_nil, List.append_nil]
        exact cellsAt_one (S2.at_ (List.mem_cons_self ..))
      clear S1 S2 S3
      (repeat (first | (refine Step.go ?_; intros) | refine iteB_t (by decide) ?_ | refine iteB_f (by decide) ?_ | (refine Duo.mk (by first | omega | exact rfl | decide) ?_; intros)))
      have S5 := ‹Sat _ _›
      rw [wr64 (by omega) (by omega), show ((i : Nat) : Int) + 1 = ((i + 1 : Nat) : Int) by omega]
      have e : (ps.take i).map (·.2) ++ [x.2] = (ps.take (i + 1)).map (·.2) := by
        rw [List.take_add_one, hx, List.map_append]; rfl
      rw [e] at S5
      refine ih (i + 1) q2 c2 _ (by omega) (S5.to ?_)
      iterate 4 (apply Ent.pick; (focus (repeat (first | exact Sel.here | apply Sel.there))))
      exact Ent.drop Ent.refl
  refine loop n 0 none 0 _ (by omega) (S4.to (Ent.slNil ?_))
  iterate 3 (apply Ent.pick; (focus (repeat (first | exact Sel.here | apply Sel.there))))
  exact Ent.refl
end
end Go.Proofs.YtobolifgehagfaaGreat

set_option linter.unusedVariables false
set_option linter.unusedSimpArgs false
set_option linter.unnecessarySimpa false
namespace Go.Proofs.YtobolifgehagfaaGreat
open Go Go.Den Go.Proofs
abbrev OutT := Int × List EV × Int × Int
def tellT (p : Int × List EV) : OutT := (p.1, (runE p.2).evs, (runE p.2).revs, (runE p.2).more)
def TD.out (t : TD) : OutT := (t.id, t.evs, t.rv, t.mo)
def toOut (L : List Wa) (evs : List EV) : List OutT := (toTell L evs).map tellT
def pickT (ts : List TD) (i : Int) : TD := match ts.find? (fun t => t.id == i) with | some t => t | none => ⟨i, none, 0, 0, 0, []⟩
theorem pick_of {ts : List TD} (hn : (ts.map (·.id)).Nodup) {t : TD} (ht : t ∈ ts) : pickT ts t.id = t := by
  unfold pickT
  cases h : ts.find? (fun u => u.id == t.id) with
  | none =>
    have := List.find?_eq_none.1 h t ht
    simp at this
  | some u =>
    have h1 := List.mem_of_find?_eq_some h
    have h3 := List.find?_some h
    have h2 : u.id = t.id := eq_of_beq h3
    show u = t
    obtain ⟨i, hi⟩ := List.getElem?_of_mem h1
    obtain ⟨j, hj⟩ := List.getElem?_of_mem ht
    have e1 : (ts.map (·.id))[i]? = some u.id := by rw [List.getElem?_map, hi]; rfl
    have e2 : (ts.map (·.id))[j]? = some u.id := by rw [List.getElem?_map, hj, h2]; rfl
    have hij : i = j := (List.getElem?_inj (lt_of e1) hn).1 (e1.trans e2.symm)
    subst hij
    rw [hi] at hj
    exact Option.some.inj hj
theorem pick_id (ts : List TD) (i : Int) : (pickT ts i).id = i := by
  unfold pickT
  split
  · rename_i t h
    have h3 := List.find?_some h
    exact eq_of_beq h3
  · rfl
def trOf (ts : List TD) (i : Int) : Cmp.TR := ⟨(pickT ts i).q, (pickT ts i).evs.length, (pickT ts i).c, (pickT ts i).rv, (pickT ts i).mo⟩
theorem seC_pick (ts : List TD) (i : Int) : Cmp.seCC (trOf ts) i = (pickT ts i).cells := by
  show Cmp.tC i (trOf ts i) = _
  unfold TD.cells tdC
  rw [pick_id]
  rfl
section
variable {H H0 : Heap} {l : List HP}
theorem to_ids {ts : List TD} {p : Option Addr} {n c : Nat} (hn : (ts.map (·.id)).Nodup) : Ent (sl TD.cells 39 4 p n c ts :: l) (sl (Cmp.seCC (trOf ts)) 39 4 p n c (ts.map (·.id)) :: l) := by
  refine Ent.trans Cmp.sl_rows (Ent.trans ?_ Cmp.rows_sl)
  have e : ts.map TD.cells = (ts.map (·.id)).map (Cmp.seCC (trOf ts)) := by
    rw [List.map_map]
    refine List.map_congr_left fun t ht => ?_
    show t.cells = Cmp.seCC (trOf ts) t.id
    rw [seC_pick, pick_of hn ht]
  rw [e]
  exact Ent.refl
theorem of_ids {ts : List TD} {ys : List Int} {p : Option Addr} {n c : Nat} : Ent (sl (Cmp.seCC (trOf ts)) 39 4 p n c ys :: l) (sl TD.cells 39 4 p n c (ys.map (pickT ts)) :: l) := by
  refine Ent.trans Cmp.sl_rows (Ent.trans ?_ Cmp.rows_sl)
  have e : ys.map (Cmp.seCC (trOf ts)) = (ys.map (pickT ts)).map TD.cells := by
    rw [List.map_map]
    refine List.map_congr_left fun t ht => ?_
    exact seC_pick ts t
  rw [e]
  exact Ent.refl
theorem sortT_ok {ts : List TD} {p : Option Addr} {n c : Nat} (hl : n ≤ 255) (hn : (ts.map (·.id)).Nodup) (S : Sat H (sl TD.cells 39 4 p n c ts :: l)) :
    CallsH Tryz.prog 47 ⟨[.slice p n c, FV.v Cmp.cmpF]⟩ H (fun e H1 => e = .returned (.tuple ⟨[]⟩) ∧ ∃ us : List TD, us.Perm ts ∧ (us.Pairwise fun a b => a.id < b.id) ∧ Sat H1 (sl TD.cells 39 4 p n c us :: l)) := by
  refine (Cmp.sort_okC (f := trOf ts) hl (Dif.of_nodup hn) (S.to (to_ids hn))).mono ?_
  rintro _ H1 ⟨rfl, ys, hp, hs, S1⟩
  refine ⟨rfl, ys.map (pickT ts), ?_, ?_, S1.to of_ids⟩
  · refine (hp.map _).trans (List.Perm.of_eq ?_)
    rw [List.map_map]
    conv => rhs; rw [← List.map_id ts]
    refine List.map_congr_left fun t ht => ?_
    exact pick_of hn ht
  · have hyl : ys.length = n := (Sat.slLen S1 (List.mem_cons_self ..)).1
    rw [← hyl] at hs
    have := hs.pairwise.imp fun {a b} h => of_decide_eq_true h
    rw [List.pairwise_map]
    refine this.imp fun {a b} h => ?_
    rw [pick_id, pick_id]
    exact h
end
end Go.Proofs.YtobolifgehagfaaGreat

set_option linter.unusedVariables false
set_option linter.unusedSimpArgs false
set_option linter.unnecessarySimpa false
namespace Go.Proofs.YtobolifgehagfaaGreat
open Go Go.Den Go.Proofs
section
variable {H H0 : Heap} {l : List HP} {z km tp wm im sr : Nat} {L : List Wa}
def tdOf (b : BR) (x : Option Addr × Nat) : TD := ⟨b.id, x.1, x.2, (runB b.ps).revs, (runB b.ps).more, (runB b.ps).evs.map (·.2)⟩
theorem out_of (b : BR) (x : Option Addr × Nat) : (tdOf b x).out = tellT (b.id, b.ps.map (·.2)) := by
  show (b.id, (runB b.ps).evs.map (·.2), (runB b.ps).revs, (runB b.ps).more) = (b.id, (runE (b.ps.map (·.2))).evs, (runE (b.ps.map (·.2))).revs, (runE (b.ps.map (·.2))).more)
  rw [← run_e]
  rfl
abbrev gaO (q : Option Addr) (n c : Nat) : Obj := .cells ⟨[.bool false, .int .i64 0, .slice none 0 0, .slice q n c]⟩ 55
def BatQ (L : List Wa) (evs : List EV) (a : AR) (X : HP) : Prop := ∃ (q : Option Addr) (c : Nat) (us ts : List TD), a = ⟨false, 0, none, 0, 0, q, us.length, c⟩ ∧ us.Perm ts ∧ (us.Pairwise fun a b => a.id < b.id) ∧ (ts.map TD.out).Perm (toOut L evs) ∧ X = star [sl TD.cells 39 4 q us.length c us, tolds ts]
theorem tell_loop {g gB : PH} {r1 r2 : Nat} {zq : Option Addr} {N zc : Nat} {R : List BR} {L : List Wa} {evs : List EV} (hN : R.length = N) (hN2 : N ≤ 255) (hR : ∀ b ∈ R, RowsG gB b.q (runB b.ps).evs ∧ (∀ x ∈ b.ps, EvG g x.1 x.2)) (hps : ∀ b ∈ R, b.ps.length ≤ 100000) (hp : (R.map fun b => (b.id, b.ps.map (·.2))).Perm (toTell L evs)) (hid : (R.map (·.id)).Nodup) :
    ∀ (k i : Nat) (q : Option Addr) (c : Nat) (ts : List TD) (H : Heap), i + k = N → ts.map TD.out = (R.take i).map (fun b => tellT (b.id, b.ps.map (·.2))) →
      Sat H (sl TD.cells 39 4 q ts.length c ts :: pt r2 (gaO q ts.length c) :: tolds ts :: pt r1 (gaO none 0 0) :: sl BR.cells 61 4 zq N zc R :: has gB :: has g :: l) →
      F24.L0 r1 r2 zq N zc (i : Int) H (fun e H1 => ∃ a X, e = .returned (.agg ⟨AR.cells a⟩) ∧ BatQ L evs a X ∧ Sat H1 (X :: l)) := by
  intro k
  induction k with
  | zero =>
    intro i q c ts H hi hts S
    obtain rfl : i = N := by omega
    rw [← hN, List.take_length] at hts
    have hl : ts.length = i := by
      have := congrArg List.length hts
      simpa [hN] using this
    have hidt : ts.map (·.id) = R.map (·.id) := by
      have := congrArg (List.map fun x : OutT => x.1) hts
      rw [List.map_map, List.map_map] at this
      exact this
    refine F24.L0_step ?_
    unfold F24.L0n
    refine iteB_f (by simp) ?_
    (repeat (first | (refine Step.go ?_; intros) | refine iteB_t (by decide) ?_ | refine iteB_f (by decide) ?_ | (refine Duo.mk (by first | omega | exact rfl | decide) ?_; intros)))
    refine callD_i (sortT_ok (by omega) (by rw [hidt]; exact hid) S) ?_
    rintro _ H2 ⟨rfl, us, hu1, hu2, S2⟩
    clear S
    have hul : us.length = ts.length := hu1.length_eq
    rw [← hul] at S2
    (repeat (first | (refine Step.go ?_; intros) | refine iteB_t (by decide) ?_ | refine iteB_f (by decide) ?_ | (refine Duo.mk (by first | omega | exact rfl | decide) ?_; intros)))
    have SE := ‹Sat _ (_ :: _)›
    refine ⟨⟨false, 0, none, 0, 0, q, us.length, c⟩, _, rfl, ⟨q, c, us, ts, rfl, hu1, hu2, ?_, rfl⟩, ?_⟩
    · rw [hts]
      have := hp.map tellT
      rw [List.map_map] at this
      exact this
    · refine SE.to (Ent.star ?_)
      iterate 2 (apply Ent.pick; (focus (repeat (first | exact Sel.here | apply Sel.there))))
      iterate 5 (refine Ent.drop ?_)
      exact Ent.refl
  | succ k ih =>
    intro i q c ts H hi hts S
    obtain ⟨b, hb⟩ : ∃ b, R[i]? = some b := get_of (by omega)
    have hbm := List.mem_of_getElem? hb
    have hl : ts.length = i := by
      have := congrArg List.length hts
      rw [List.length_map, List.length_map, List.length_take] at this
      omega
    have hI := HasI.nat hb
    obtain ⟨ra, oa, rfl⟩ := S.slSome (f := BR.cells) (E := 61) (z := 4) (p := zq) (n := N) (c := zc) (xs := R) (by simp) (by omega)
    have hgB : PH.sub gB (PH.of H) := by
      obtain ⟨h', a, b⟩ := S.mem (c := has gB) (by simp)
      exact a.trans b
    have hg : PH.sub g (PH.of H) := by
      obtain ⟨h', a, b⟩ := S.mem (c := has g) (by simp)
      exact a.trans b
    have hlen := runB_len b.ps
    have hpl := hps b hbm
    refine F24.L0_step ?_
    unfold F24.L0n
    refine iteB_t (decide_eq_true (by omega)) ?_
    (repeat (first | (refine Step.go ?_; intros) | refine iteB_t (by decide) ?_ | refine iteB_f (by decide) ?_ | (refine Duo.mk (by first | omega | exact rfl | decide) ?_; intros)))
    refine grow_i S (told2_ok (g := g) (ps := (runB b.ps).evs) (by omega) (fun p hp => (hR b hbm).2 p (runB_mem hp)) hg ((hR b hbm).1 H hgB) rfl) ?_
    rintro x H1 E1 S1
    clear S
    simp only [List.cons_append, List.nil_append] at S1
    (repeat (first | (refine Step.go ?_; intros) | refine iteB_t (by decide) ?_ | refine iteB_f (by decide) ?_ | (refine Duo.mk (by first | omega | exact rfl | decide) ?_; intros)))
    rename_i r H2 S2
    clear S1
    have S3 : Sat H2 (sl TD.cells 39 4 q ts.length c ts :: pt r (.cells ⟨(tdOf b x).cells⟩ 39) :: sl EV.cells 36 7 x.1 (runB b.ps).evs.length x.2 ((runB b.ps).evs.map (·.2)) :: tolds ts :: pt r2 (gaO q ts.length c) :: pt r1 (gaO none 0 0) :: sl BR.cells 61 4 (some ⟨ra, oa, none⟩) N zc R :: has gB :: has g :: l) := by
      unfold tdOf TD.cells
      rw [List.length_map]
      refine S2.to ?_
      iterate 9 (apply Ent.pick; (focus (repeat (first | exact Sel.here | apply Sel.there))))
      exact Ent.refl
    clear S2
    refine S3.slApp (ys := [tdOf b x]) (q := some ⟨r, 0, none⟩) (d := 1) ?_ rfl (by simp) (by simp [isCell]) rfl (by decide) (by omega) fun q2 c2 H5 S6 => ?_
    · simp only [List.flatMap_cons, List.flatMap_nil, List.append_nil]
      exact cellsAt_one (S3.at_ (List.mem_cons_of_mem _ (List.mem_cons_self ..)))
    clear S3
    have el : ts.length + 1 = (ts ++ [tdOf b x]).length := by simp
    rw [el] at S6 ⊢
    (repeat (first | (refine Step.go ?_; intros) | refine iteB_t (by decide) ?_ | refine iteB_f (by decide) ?_ | (refine Duo.mk (by first | omega | exact rfl | decide) ?_; intros)))
    have S7 := ‹Sat _ (_ :: _)›
    rw [wr64 (by omega) (by omega), show ((i : Nat) : Int) + 1 = ((i + 1 : Nat) : Int) by omega]
    refine ih (i + 1) q2 c2 (ts ++ [tdOf b x]) _ (by omega) ?_ ?_
    · rw [List.map_append, hts, List.take_add_one, hb, List.map_append]
      show _ ++ [(tdOf b x).out] = _ ++ [tellT (b.id, b.ps.map (·.2))]
      rw [out_of]
    · have S8 : Sat _ (sl EV.cells 36 7 (tdOf b x).q (tdOf b x).evs.length (tdOf b x).c (tdOf b x).evs :: tolds ts :: sl TD.cells 39 4 q2 (ts ++ [tdOf b x]).length c2 (ts ++ [tdOf b x]) :: pt r2 (gaO q2 (ts ++ [tdOf b x]).length c2) :: pt r1 (gaO none 0 0) :: sl BR.cells 61 4 (some ⟨ra, oa, none⟩) N zc R :: has gB :: has g :: l) := S7.to (by
        have e : sl EV.cells 36 7 x.1 (runB b.ps).evs.length x.2 ((runB b.ps).evs.map (·.2)) = sl EV.cells 36 7 (tdOf b x).q (tdOf b x).evs.length (tdOf b x).c (tdOf b x).evs := by
          unfold tdOf
          rw [List.length_map]
        rw [e]
        iterate 8 (apply Ent.pick; (focus (repeat (first | exact Sel.here | apply Sel.there))))
        first | exact Ent.refl | exact Ent.drop Ent.refl)
      refine (S8.to tolds_snoc).to ?_
      iterate 7 (apply Ent.pick; (focus (repeat (first | exact Sel.here | apply Sel.there))))
      exact Ent.refl
end
end Go.Proofs.YtobolifgehagfaaGreat

set_option linter.unusedVariables false
set_option linter.unusedSimpArgs false
set_option linter.unnecessarySimpa false
namespace Go.Proofs.YtobolifgehagfaaGreat
open Go Go.Den Go.Proofs
section
variable {H H0 : Heap} {l : List HP} {z km tp wm im sr : Nat} {L : List Wa} {k : ByteArray}
theorem allEv {g : PH} {evs : List EV} {ps : List PE} (h : ps.map (·.2) = evs) {Q : EV → Prop} (hq : ∀ v ∈ evs, Q v) : ∀ p ∈ ps, Q p.2 := fun p hp => hq p.2 (by rw [← h]; exact List.mem_map_of_mem hp)
theorem forW_len (x : Wa) (evs : List EV) : (forW x evs).length ≤ evs.length := List.length_filter_le ..
theorem opBatch_ok {evs : List EV} {ep : Option Addr} {en ec : Nat} (hE : RowsAt EV.cells 7 H0 ep evs) (hm : old H0 ∈ l) (hen : evs.length = en) (hb : en ≤ 200) (hok : ∀ v ∈ evs, EvOk v) (hkz : ∀ v ∈ evs, v.key.size ≠ 0) (hl : L.length ≤ 255) (A : After z km tp wm im sr L l H) :
    CallsH Tryz.prog 24 ⟨[pA z, .agg ⟨askC 7 k ep en ec⟩]⟩ H (fun e H1 => ∃ a X, e = .returned (.agg ⟨AR.cells a⟩) ∧ BatQ L evs a X ∧ Sat H1 (X :: l)) := by
  obtain ⟨g, ws, ZK, ZR, T, hL, hG, S⟩ := A
  have hll : ws.length = L.length := by rw [← hL, List.length_map]
  refine F24.calls ?_
  unfold F24.go
  (repeat (first | (refine Step.go ?_; intros) | refine iteB_t (by decide) ?_ | refine iteB_f (by decide) ?_ | (refine Duo.mk (by first | omega | exact rfl | decide) ?_; intros)))
  rename_i r0 H1 S1 r1 H2 S2 r2 H3 S3 H4 S4 H5 S5 H6 S6 H7 S7
  have S8 : Sat H7 (grpM g z km tp wm im sr ws ZK ZR T (idM ws) (pt r0 (.cells ⟨askC 7 k ep en ec⟩ 30) :: pt r1 (gaO none 0 0) :: pt r2 (gaO none 0 0) :: l)) := by
    refine S7.to ?_
    iterate 13 (apply Ent.pick; (focus (repeat (first | exact Sel.here | apply Sel.there))))
    exact Ent.refl
  clear S S1 S2 S3 S4 S5 S6 S7
  have E7 : ExtH H0 H7 := S8.old (by simp [hm])
  refine callD_i (eventsIn_ok (hE.ext E7) hen (by omega) hok) ?_
  rintro _ H8 ⟨q, qc, ps, gE, rfl, hps, hall, S9⟩
  have hpl : ps.length = en := by rw [← hen, ← hps, List.length_map]
  have SA := Sat.onto (m := [has gE, sl peC 77 1 q en qc ps]) S9 S8
  simp only [List.cons_append, List.nil_append] at SA
  clear S8 S9
  have SB : Sat H8 (has gE :: has g :: sl peC 77 1 q en qc ps :: pt z (grO km tp wm im) :: mp Value.string mpI km ZK :: sets (memK ws) ZK :: sets (memR ws) ZR :: mp ptrK unitF wm (unitL (ws.map (·.2))) :: mp (Value.int .i64) ptrK im (idM ws) :: trPs sr tp T (pt r0 (.cells ⟨askC 7 k ep en ec⟩ 30) :: pt r1 (gaO none 0 0) :: pt r2 (gaO none 0 0) :: l)) := by
    refine SA.to ?_
    iterate 12 (apply Ent.pick; (focus (repeat (first | exact Sel.here | apply Sel.there))))
    exact Ent.refl
  clear SA
  obtain ⟨g', hs1, hs2, SC⟩ := has_join SB
  clear SB
  have SD : Sat H8 (grpM g' z km tp wm im sr ws ZK ZR T (idM ws) (sl peC 77 1 q en qc ps :: pt r0 (.cells ⟨askC 7 k ep en ec⟩ 30) :: pt r1 (gaO none 0 0) :: pt r2 (gaO none 0 0) :: l)) := by
    refine SC.to ?_
    iterate 14 (apply Ent.pick; (focus (repeat (first | exact Sel.here | apply Sel.there))))
    exact Ent.refl
  clear SC
  have hG' := hG.mono hs2
  (repeat (first | (refine Step.go ?_; intros) | refine iteB_t (by decide) ?_ | refine iteB_f (by decide) ?_ | (refine Duo.mk (by first | omega | exact rfl | decide) ?_; intros)))
  refine callD_i (zbatch_ok hG' (fun p hp => (hall p hp).mono hs1) (fun p hp => ⟨allEv (g := g) hps hkz p hp, by have := (allEv (g := g) hps hok p hp).key; omega⟩) (by omega) (by omega) SD) ?_
  rintro _ H9 ⟨zp, zk, R, g2, gB, rfl, hs3, hR, hp, SE⟩
  clear SD
  (repeat (first | (refine Step.go ?_; intros) | refine iteB_t (by decide) ?_ | refine iteB_f (by decide) ?_ | (refine Duo.mk (by first | omega | exact rfl | decide) ?_; intros)))
  rw [hps, hL] at hp
  have htl : (toTell L evs).length ≤ L.length := by
    unfold toTell
    rw [List.length_map]
    exact List.length_filter_le ..
  have hRl : R.length ≤ 255 := by
    have := hp.length_eq
    rw [List.length_map] at this
    omega
  have hids : ((toTell L evs).map (·.1)).Nodup := by
    unfold toTell
    rw [List.map_map]
    have h1 := hG.ids
    have e : ws.map (·.1.id) = L.map (·.id) := by rw [← hL, List.map_map]; rfl
    rw [e] at h1
    exact h1.sublist (List.filter_sublist.map _)
  have hidR : (R.map (·.id)).Nodup := by
    have h1 := hp.map (·.1)
    rw [List.map_map] at h1
    exact h1.nodup_iff.2 hids
  have hpsl : ∀ b ∈ R, b.ps.length ≤ 100000 := by
    intro b hb
    have h1 : (b.id, b.ps.map (·.2)) ∈ toTell L evs := hp.mem_iff.1 (List.mem_map.2 ⟨b, hb, rfl⟩)
    unfold toTell at h1
    obtain ⟨x, _, h2⟩ := List.mem_map.1 h1
    have h3 := congrArg (fun y : Int × List EV => y.2.length) h2
    dsimp only at h3
    rw [List.length_map] at h3
    have := forW_len x evs
    omega
  refine tell_loop (g := g2) (gB := gB) (l := l) rfl hRl hR hpsl hp hidR R.length 0 none 0 [] H9 (by omega) rfl ?_
  have SF := SE.to tolds_nil
  refine SF.to (Ent.slNil ?_)
  iterate 6 (apply Ent.pick; (focus (repeat (first | exact Sel.here | apply Sel.there))))
  iterate 11 (refine Ent.drop ?_)
  exact Ent.refl
end
end Go.Proofs.YtobolifgehagfaaGreat

set_option linter.unusedVariables false
set_option linter.unusedSimpArgs false
set_option linter.unnecessarySimpa false
namespace Go.Proofs.YtobolifgehagfaaGreat
open Go Go.Den Go.Proofs
section
variable {H H0 : Heap} {l : List HP}
def LastE (H0 : Heap) (xs : List Wa) (lc : List Value) (Φ : AR → HP → Prop) : Prop := ∀ (H : Heap) (z km tp wm im sr : Nat) (l : List HP), Den.old H0 ∈ l → After z km tp wm im sr (allW xs) l H →
  CallsH Tryz.prog 24 ⟨[pA z, .agg ⟨lc⟩]⟩ H (fun e H1 => ∃ a X, e = .returned (.agg ⟨AR.cells a⟩) ∧ Φ a X ∧ Sat H1 (X :: l))
theorem group3_ok {xs : List Wa} {kd : Int} {qk : ByteArray} {ep : Option Addr} {en ec : Nat} {p : Option Addr} {n c : Nat} {Φ : AR → HP → Prop} (hn : xs.length + 1 = n) (hb : n ≤ 400) (hx : ∀ x ∈ xs, WaOk x) (hm : Den.old H0 ∈ l) (hq : LastE H0 xs (askC kd qk ep en ec) Φ)
    (S : Sat H (sl idC 30 10 p n c (opsL xs kd qk ep en ec) :: l)) :
    CallsH Tryz.prog 15 ⟨[.slice p n c]⟩ H (fun e H1 => ∃ q qc av a X, e = .returned (.slice q n qc) ∧ av.length = n ∧ av[n - 1]? = some a ∧ Φ a X ∧ Sat H1 (sl AR.cells 55 4 q n qc av :: X :: sl idC 30 10 p n c (opsL xs kd qk ep en ec) :: l)) := by
  refine F15.calls ?_
  unfold F15.go
  refine callD_i (emptyGroup_ok S) ?_
  rintro _ H1 ⟨z, km, tp, wm, im, sr, rfl, S1⟩
  obtain ⟨ra, oa, rfl⟩ := S.slSome (f := idC) (E := 30) (z := 10) (p := p) (n := n) (c := c) (xs := opsL xs kd qk ep en ec) (List.mem_cons_self ..) (by omega)
  clear S
  refine ⟨_, rfl, ?_⟩
  have loop : ∀ (j i : Nat) (q : Option Addr) (qc : Nat) (av : List AR) (H : Heap), i + j = xs.length → av.length = i → After z km tp wm im sr (allW (xs.take i)) (sl AR.cells 55 4 q i qc av :: sl idC 30 10 (some ⟨ra, oa, none⟩) n c (opsL xs kd qk ep en ec) :: l) H →
      F15.L0 (some ⟨ra, oa, none⟩) n c (some (aA z)) q i qc (i : Nat) H (fun e H1 => ∃ q qc av a X, e = .returned (.slice q n qc) ∧ av.length = n ∧ av[n - 1]? = some a ∧ Φ a X ∧ Sat H1 (sl AR.cells 55 4 q n qc av :: X :: sl idC 30 10 (some ⟨ra, oa, none⟩) n c (opsL xs kd qk ep en ec) :: l)) := by
    intro j
    induction j with
    | zero =>
      intro i q qc av H hi ha A
      obtain rfl : i = xs.length := by omega
      rw [List.take_length] at A
      have hr : (opsL xs kd qk ep en ec)[xs.length]? = some (askC kd qk ep en ec) := by simp
      have hI := HasI.nat hr
      have S2 : ∃ m, Sat H (sl idC 30 10 (some ⟨ra, oa, none⟩) n c (opsL xs kd qk ep en ec) :: m) := by
        obtain ⟨g, ws, ZK, ZR, T, _, _, S⟩ := A
        exact ⟨_, S.to (by iterate 1 (apply Ent.pick; (focus (repeat (first | exact Sel.here | apply Sel.there)))); exact Ent.refl)⟩
      obtain ⟨m, S2⟩ := S2
      refine F15.L0_step ?_
      unfold F15.L0n
      refine iteB_t (decide_eq_true (by omega)) ?_
      (repeat (first | (refine Step.go ?_; intros) | refine iteB_t (by decide) ?_ | refine iteB_f (by decide) ?_ | (refine Duo.mk (by first | omega | exact rfl | decide) ?_; intros)))
      refine callD_i (hq H z km tp wm im sr _ (by simp [hm]) A) ?_
      rintro _ H2 ⟨a, X, rfl, hΦ, S3⟩
      clear S2 A
      (repeat (first | (refine Step.go ?_; intros) | refine iteB_t (by decide) ?_ | refine iteB_f (by decide) ?_ | (refine Duo.mk (by first | omega | exact rfl | decide) ?_; intros)))
      rename_i r3 H3 S4
      have S5 : Sat H3 (sl AR.cells 55 4 q xs.length qc av :: pt r3 (.cells ⟨AR.cells a⟩ 55) :: X :: sl idC 30 10 (some ⟨ra, oa, none⟩) n c (opsL xs kd qk ep en ec) :: l) := by
        refine S4.to ?_
        iterate 4 (apply Ent.pick; (focus (repeat (first | exact Sel.here | apply Sel.there))))
        exact Ent.refl
      clear S3 S4
      refine S5.slApp (ys := [a]) (q := some ⟨r3, 0, none⟩) (d := 1) ?_ rfl (by simp) (by simp [isCell]) rfl (by decide) (by omega) fun q2 c2 H5 S6 => ?_
      · simp only [List.flatMap_cons, List.flatMap_nil, List.append_nil]
        exact cellsAt_one (S5.at_ (List.mem_cons_of_mem _ (List.mem_cons_self ..)))
      rw [wr64 (by omega) (by omega)]
      refine F15.L0_step ?_
      unfold F15.L0n
      refine iteB_f (decide_eq_false (by omega)) ?_
      rw [hn] at S6 ⊢
      refine ⟨q2, c2, av ++ [a], a, X, rfl, by rw [List.length_append, ha]; simpa using hn, ?_, hΦ, S6.to ?_⟩
      · rw [show n - 1 = av.length by omega]
        simp
      · iterate 1 (apply Ent.pick; (focus (repeat (first | exact Sel.here | apply Sel.there))))
        exact Ent.drop Ent.refl
    | succ j ih =>
      intro i q qc av H hi ha A
      obtain ⟨x, hxi⟩ : ∃ x, xs[i]? = some x := get_of (by omega)
      have hr : (opsL xs kd qk ep en ec)[i]? = some (addC x) := by
        rw [List.getElem?_append_left (by rw [List.length_map]; omega), List.getElem?_map, hxi]; rfl
      have hI := HasI.nat hr
      have S2 : ∃ m, Sat H (sl idC 30 10 (some ⟨ra, oa, none⟩) n c (opsL xs kd qk ep en ec) :: m) := by
        obtain ⟨g, ws, ZK, ZR, T, _, _, S⟩ := A
        exact ⟨_, S.to (by iterate 1 (apply Ent.pick; (focus (repeat (first | exact Sel.here | apply Sel.there)))); exact Ent.refl)⟩
      obtain ⟨m, S2⟩ := S2
      have hlen : (allW (xs.take i)).length ≤ i := by
        have := fold_len (xs.take i) []
        rw [List.length_take] at this
        simp only [List.length_nil] at this
        unfold allW
        omega
      refine F15.L0_step ?_
      unfold F15.L0n
      refine iteB_t (decide_eq_true (by omega)) ?_
      (repeat (first | (refine Step.go ?_; intros) | refine iteB_t (by decide) ?_ | refine iteB_f (by decide) ?_ | (refine Duo.mk (by first | omega | exact rfl | decide) ?_; intros)))
      clear S2
      obtain ⟨g, ws, ZK, ZR, T, hw, hG, S⟩ := A
      have hwl : ws.length = (allW (xs.take i)).length := by rw [← hw, List.length_map]
      refine callD_i (opAdd2_ok hG (hx x (List.mem_of_getElem? hxi)) (by omega) S) ?_
      rintro _ H2 ⟨⟨b, rfl⟩, A⟩
      rw [hw] at A
      clear S
      obtain ⟨g', ws', ZK', ZR', T', hw', hG', S3⟩ := A
      (repeat (first | (refine Step.go ?_; intros) | refine iteB_t (by decide) ?_ | refine iteB_f (by decide) ?_ | (refine Duo.mk (by first | omega | exact rfl | decide) ?_; intros)))
      rename_i r3 H3 S4
      have S5 : Sat H3 (sl AR.cells 55 4 q i qc av :: pt r3 (.cells ⟨AR.cells ⟨b, 0, none, 0, 0, none, 0, 0⟩⟩ 55) :: grpM g' z km tp wm im sr ws' ZK' ZR' T' (idM ws') (sl idC 30 10 (some ⟨ra, oa, none⟩) n c (opsL xs kd qk ep en ec) :: l)) := by
        refine S4.to ?_
        iterate 12 (apply Ent.pick; (focus (repeat (first | exact Sel.here | apply Sel.there))))
        exact Ent.refl
      clear S3 S4
      refine S5.slApp (ys := [⟨b, 0, none, 0, 0, none, 0, 0⟩]) (q := some ⟨r3, 0, none⟩) (d := 1) ?_ rfl (by simp) (by simp [isCell]) rfl (by decide) (by omega) fun q2 c2 H5 S6 => ?_
      · simp only [List.flatMap_cons, List.flatMap_nil, List.append_nil]
        exact cellsAt_one (S5.at_ (List.mem_cons_of_mem _ (List.mem_cons_self ..)))
      clear S5
      rw [wr64 (by omega) (by omega), show ((i : Nat) : Int) + 1 = ((i + 1 : Nat) : Int) by omega]
      refine ih (i + 1) q2 c2 (av ++ [⟨b, 0, none, 0, 0, none, 0, 0⟩]) H5 (by omega) (by rw [List.length_append, ha]; rfl) ⟨g', ws', ZK', ZR', T', ?_, hG', S6.to ?_⟩
      · rw [hw', List.take_add_one, hxi]
        unfold allW
        rw [List.foldl_append]
        rfl
      · iterate 10 (apply Ent.pick; (focus (repeat (first | exact Sel.here | apply Sel.there))))
        iterate 1 (apply Ent.pick; (focus (repeat (first | exact Sel.here | apply Sel.there))))
        exact Ent.drop Ent.refl
  exact loop xs.length 0 none 0 [] H1 (by omega) rfl (after_new (S1.to (by
    iterate 6 (apply Ent.pick; (focus (repeat (first | exact Sel.here | apply Sel.there))))
    exact Ent.slNil Ent.refl)))
theorem lastBat {xs : List Wa} {k : ByteArray} {evs : List EV} {ep : Option Addr} {en ec : Nat} (hE : RowsAt EV.cells 7 H0 ep evs) (hen : evs.length = en) (hok : ∀ v ∈ evs, EvOk v) (hg : Good xs 7 k evs) : LastE H0 xs (askC 7 k ep en ec) (BatQ (allW xs) evs) := by
  intro H z km tp wm im sr l hm A
  have hl : (allW xs).length ≤ 255 := by
    have := fold_len xs []
    have := hg.few
    unfold allW
    simp only [List.length_nil] at *
    omega
  have := hg.evn
  exact opBatch_ok hE hm hen (by omega) hok hg.evk hl A
end
end Go.Proofs.YtobolifgehagfaaGreat

set_option linter.unusedVariables false
set_option linter.unusedSimpArgs false
set_option linter.unnecessarySimpa false
namespace Go.Proofs.YtobolifgehagfaaGreat
open Go Go.Den Go.Proofs
theorem runE_b (xs : List EV) : runE xs = (runB (xs.map fun v => ((0 : Nat), v))).e := by
  rw [run_e, List.map_map]
  congr 1
  exact (List.map_id xs).symm
theorem runE_len (xs : List EV) : (runE xs).evs.length ≤ xs.length := by
  rw [runE_b]
  have := runB_len (xs.map fun v => ((0 : Nat), v))
  unfold BT.e
  rw [List.length_map] at this ⊢
  exact this
theorem runE_revs (xs : List EV) : 0 ≤ (runE xs).revs ∧ (runE xs).revs ≤ 1001 := by
  rw [runE_b]
  exact runB_revs _
theorem runE_snoc (xs : List EV) (x : EV) : runE (xs ++ [x]) = (runE xs).add x := by
  unfold runE
  rw [List.foldl_append]
  rfl
section
variable {H H0 : Heap} {l : List HP}
theorem for_ok {x : Wa} {evs : List EV} {ep : Option Addr} {en ec : Nat} (hE : RowsAt EV.cells 7 H0 ep evs) (hen : evs.length = en) (hb : en ≤ 1000000) :
    CallsH Tryz.prog 28 ⟨[.agg ⟨x.cells⟩, .slice ep en ec]⟩ H0 (fun e H1 => ∃ y : Option Addr × Nat, e = .returned (.slice y.1 (forW x evs).length y.2) ∧ Sat H1 ([sl EV.cells 36 7 y.1 (forW x evs).length y.2 (forW x evs)] ++ [old H0])) := by
  have S := Sat.start H0
  refine F28.calls ?_
  unfold F28.go
  refine Step.go ?_
  intro w H1 S1
  clear S
  have R0 : RowsC H0 ep EV.cells 7 evs := ⟨hE⟩
  have loop : ∀ (k i : Nat) (q : Option Addr) (c : Nat) (H : Heap), i + k = en → Sat H [sl EV.cells 36 7 q (forW x (evs.take i)).length c (forW x (evs.take i)), pt w (.cells ⟨x.cells⟩ 28), old H0] →
      F28.L0 w q (forW x (evs.take i)).length c ep en ec (en : Nat) (i : Nat) H (fun e H1 => ∃ y : Option Addr × Nat, e = .returned (.slice y.1 (forW x evs).length y.2) ∧ Sat H1 ([sl EV.cells 36 7 y.1 (forW x evs).length y.2 (forW x evs)] ++ [old H0])) := by
    intro k
    induction k with
    | zero =>
      intro i q c H hi S
      obtain rfl : i = en := by omega
      have et : evs.take i = evs := by rw [← hen, List.take_length]
      rw [et] at S ⊢
      refine F28.L0_step ?_
      unfold F28.L0n
      refine iteB_f (decide_eq_false (by omega)) ?_
      exact ⟨(q, c), rfl, S.to (Ent.cons (Ent.drop .refl))⟩
    | succ k ih =>
      intro i q c H hi S
      obtain ⟨v, hv⟩ : ∃ v, evs[i]? = some v := get_of (by omega)
      have hI := HasI.nat hv
      have et : evs.take (i + 1) = evs.take i ++ [v] := by rw [List.take_add_one, hv]; rfl
      have hfl : (forW x (evs.take i)).length ≤ i := by
        have h1 := forW_len x (evs.take i)
        rw [List.length_take] at h1
        omega
      have next : ∀ (q2 : Option Addr) (c2 : Nat) (H2 : Heap), Sat H2 [sl EV.cells 36 7 q2 (forW x (evs.take (i + 1))).length c2 (forW x (evs.take (i + 1))), pt w (.cells ⟨x.cells⟩ 28), old H0] →
          F28.L2 w q2 (forW x (evs.take (i + 1))).length c2 ep en ec (en : Nat) (i : Nat) H2 (fun e H1 => ∃ y : Option Addr × Nat, e = .returned (.slice y.1 (forW x evs).length y.2) ∧ Sat H1 ([sl EV.cells 36 7 y.1 (forW x evs).length y.2 (forW x evs)] ++ [old H0])) := by
        intro q2 c2 H2 S2
        refine F28.L2_step ?_
        unfold F28.L2n
        rw [wr64 (by omega) (by omega), show ((i : Nat) : Int) + 1 = ((i + 1 : Nat) : Int) by omega]
        exact ih (i + 1) q2 c2 H2 (by omega) S2
      rw [et, forW_snoc] at next
      refine F28.L0_step ?_
      unfold F28.L0n
      refine iteB_t (decide_eq_true (by omega)) ?_
      refine R0.idx hen ⟨by omega, by omega, ?_⟩
      intro a ha
      subst ha
      (repeat (first | (refine Step.go ?_; intros) | refine iteB_t (by decide) ?_ | refine iteB_f (by decide) ?_ | (refine Duo.mk (by first | omega | exact rfl | decide) ?_; intros)))
      have SA := ‹Sat _ (pt _ (.cells ⟨v.cells⟩ _) :: _)›
      rename_i HA _
      refine gives_i SA sees_ok fun H7 E7 S7 => ?_
      clear SA S
      (repeat (first | (refine Step.go ?_; intros) | refine iteB_t (by decide) ?_ | refine iteB_f (by decide) ?_ | (refine Duo.mk (by first | omega | exact rfl | decide) ?_; intros)))
      refine iteB_i (fun h => ?_) (fun h => ?_)
      · (repeat (first | (refine Step.go ?_; intros) | refine iteB_t (by decide) ?_ | refine iteB_f (by decide) ?_ | (refine Duo.mk (by first | omega | exact rfl | decide) ?_; intros)))
        refine iteB_i (fun h2 => ?_) (fun h2 => ?_)
        · have h2 : v.m ≥ x.m := of_decide_eq_true h2
          rw [h, if_pos (by simpa using h2)] at next
          refine F28.L1_step ?_
          unfold F28.L1n
          (repeat (first | (refine Step.go ?_; intros) | refine iteB_t (by decide) ?_ | refine iteB_f (by decide) ?_ | (refine Duo.mk (by first | omega | exact rfl | decide) ?_; intros)))
          rename_i r H8 S8
          have S9 := S8.bring (c := sl EV.cells 36 7 q (forW x (evs.take i)).length c (forW x (evs.take i))) (by (repeat (first | exact Sel.here | apply Sel.there)))
          refine S9.slApp (ys := [v]) (q := some ⟨r, 0, none⟩) (d := 1) ?_ rfl (by simp) (by simp [isCell]) rfl (by decide) (by omega) fun q2 c2 H9 SB => ?_
          · simp only [List.flatMap_cons, List.flatMap_nil, List.append_nil]
            exact cellsAt_one (S8.at_ (List.mem_cons_self ..))
          clear S7 S8 S9
          have el : (forW x (evs.take i)).length + 1 = (forW x (evs.take i) ++ [v]).length := by simp
          rw [el] at SB ⊢
          refine next q2 c2 H9 (SB.to ?_)
          iterate 2 (apply Ent.pick; (focus (repeat (first | exact Sel.here | apply Sel.there))))
          exact Fits.out
        · have h2 : ¬ v.m ≥ x.m := of_decide_eq_false h2
          rw [h, if_neg (by simp; omega), List.append_nil] at next
          refine next q c H7 (S7.to ?_)
          iterate 2 (apply Ent.pick; (focus (repeat (first | exact Sel.here | apply Sel.there))))
          exact Fits.out
      · rw [h, if_neg (by simp), List.append_nil] at next
        refine next q c H7 (S7.to ?_)
        iterate 2 (apply Ent.pick; (focus (repeat (first | exact Sel.here | apply Sel.there))))
        exact Fits.out
  refine loop en 0 none 0 H1 (by omega) ?_
  exact S1.to (Ent.slNil .refl)
end
end Go.Proofs.YtobolifgehagfaaGreat

set_option linter.unusedVariables false
set_option linter.unusedSimpArgs false
set_option linter.unnecessarySimpa false
namespace Go.Proofs.YtobolifgehagfaaGreat
open Go Go.Den Go.Proofs
section
variable {H H0 : Heap} {l : List HP}
abbrev toO (q : Option Addr) (n c : Nat) (rv mo : Int) : Obj := .cells ⟨tdC 0 q n c rv mo⟩ 39
theorem sbatch_ok {xs : List EV} {p : Option Addr} {n c0 : Nat} (hE : RowsAt EV.cells 7 H0 p xs) (hen : xs.length = n) (hb : n ≤ 1000000) :
    CallsH Tryz.prog 29 ⟨[.slice p n c0]⟩ H0 (fun e H1 => ∃ y : Option Addr × Nat, e = .returned (tdV 0 y.1 (runE xs).evs.length y.2 (runE xs).revs (runE xs).more) ∧ Sat H1 ([sl EV.cells 36 7 y.1 (runE xs).evs.length y.2 (runE xs).evs] ++ [old H0])) := by
  have S := Sat.start H0
  refine F29.calls ?_
  unfold F29.go
  refine Step.go ?_
  intro s2 H1 S1
  refine Step.go ?_
  intro t H2 S2
  clear S S1
  have R0 : RowsC H0 p EV.cells 7 xs := ⟨hE⟩
  have loop : ∀ (k i : Nat) (q : Option Addr) (c : Nat) (b : BE) (H : Heap), i + k = n → b = runE (xs.take i) → Sat H [sl EV.cells 36 7 q b.evs.length c b.evs, pt t (toO q b.evs.length c b.revs b.more), pt s2 (toO none 0 0 0 0), old H0] →
      F29.L0 s2 t p n c0 (n : Nat) (i : Nat) H (fun e H1 => ∃ y : Option Addr × Nat, e = .returned (tdV 0 y.1 (runE xs).evs.length y.2 (runE xs).revs (runE xs).more) ∧ Sat H1 ([sl EV.cells 36 7 y.1 (runE xs).evs.length y.2 (runE xs).evs] ++ [old H0])) := by
    intro k
    induction k with
    | zero =>
      intro i q c b H hi hbb S
      obtain rfl : i = n := by omega
      have et : xs.take i = xs := by rw [← hen, List.take_length]
      rw [et] at hbb
      subst hbb
      refine F29.L0_step ?_
      unfold F29.L0n
      refine iteB_f (decide_eq_false (by omega)) ?_
      (repeat (first | (refine Step.go ?_; intros) | refine iteB_t (by decide) ?_ | refine iteB_f (by decide) ?_ | (refine Duo.mk (by first | omega | exact rfl | decide) ?_; intros)))
      have SE := ‹Sat _ (_ :: _)›
      refine ⟨(q, c), rfl, SE.to ?_⟩
      apply Ent.pick
      · focus (repeat (first | exact Sel.here | apply Sel.there))
      · exact Ent.drop (Ent.drop .refl)
    | succ k ih =>
      intro i q c b H hi hbb S
      obtain ⟨v, hv⟩ : ∃ v, xs[i]? = some v := get_of (by omega)
      have hI := HasI.nat hv
      have et : xs.take (i + 1) = xs.take i ++ [v] := by rw [List.take_add_one, hv]; rfl
      have hbl : b.evs.length ≤ i := by
        have h1 := runE_len (xs.take i)
        rw [List.length_take] at h1
        rw [hbb]
        omega
      have hbr : 0 ≤ b.revs ∧ b.revs ≤ 1001 := by rw [hbb]; exact runE_revs _
      have hnx : b.add v = runE (xs.take (i + 1)) := by rw [et, runE_snoc, hbb]
      have next : ∀ (q2 : Option Addr) (c2 : Nat) (H2 : Heap), Sat H2 [sl EV.cells 36 7 q2 (b.add v).evs.length c2 (b.add v).evs, pt t (toO q2 (b.add v).evs.length c2 (b.add v).revs (b.add v).more), pt s2 (toO none 0 0 0 0), old H0] →
          F29.L2 s2 t p n c0 (n : Nat) (i : Nat) H2 (fun e H1 => ∃ y : Option Addr × Nat, e = .returned (tdV 0 y.1 (runE xs).evs.length y.2 (runE xs).revs (runE xs).more) ∧ Sat H1 ([sl EV.cells 36 7 y.1 (runE xs).evs.length y.2 (runE xs).evs] ++ [old H0])) := by
        intro q2 c2 H2 S2
        refine F29.L2_step ?_
        unfold F29.L2n
        rw [wr64 (by omega) (by omega), show ((i : Nat) : Int) + 1 = ((i + 1 : Nat) : Int) by omega]
        exact ih (i + 1) q2 c2 (b.add v) H2 (by omega) hnx S2
      have push : ∀ (e : Nat) (rv : Int) (H2 : Heap), b.add v = ⟨b.evs ++ [v], rv, b.more⟩ → rv ≤ 1000 → Sat H2 [pt e (.cells ⟨v.cells⟩ 36), sl EV.cells 36 7 q b.evs.length c b.evs, pt t (toO q b.evs.length c rv b.more), pt s2 (toO none 0 0 0 0), old H0] →
          F29.L1 s2 t e p n c0 (n : Nat) (i : Nat) H2 (fun e H1 => ∃ y : Option Addr × Nat, e = .returned (tdV 0 y.1 (runE xs).evs.length y.2 (runE xs).revs (runE xs).more) ∧ Sat H1 ([sl EV.cells 36 7 y.1 (runE xs).evs.length y.2 (runE xs).evs] ++ [old H0])) := by
        intro e rv H2 hadd hrv S2
        refine F29.L1_step ?_
        unfold F29.L1n
        (repeat (first | (refine Step.go ?_; intros) | refine iteB_t (by decide) ?_ | refine iteB_f (by decide) ?_ | (refine Duo.mk (by first | omega | exact rfl | decide) ?_; intros)))
        refine iteB_f (decide_eq_false (by omega)) ?_
        (repeat (first | (refine Step.go ?_; intros) | refine iteB_t (by decide) ?_ | refine iteB_f (by decide) ?_ | (refine Duo.mk (by first | omega | exact rfl | decide) ?_; intros)))
        rename_i r H8 S8
        have S9 := S8.bring (c := sl EV.cells 36 7 q b.evs.length c b.evs) (by (repeat (first | exact Sel.here | apply Sel.there)))
        refine S9.slApp (ys := [v]) (q := some ⟨r, 0, none⟩) (d := 1) ?_ rfl (by simp) (by simp [isCell]) rfl (by decide) (by omega) fun q2 c2 H9 SB => ?_
        · simp only [List.flatMap_cons, List.flatMap_nil, List.append_nil]
          exact cellsAt_one (S8.at_ (List.mem_cons_self ..))
        clear S2 S8 S9
        have el : b.evs.length + 1 = (b.evs ++ [v]).length := by simp
        rw [el] at SB ⊢
        (repeat (first | (refine Step.go ?_; intros) | refine iteB_t (by decide) ?_ | refine iteB_f (by decide) ?_ | (refine Duo.mk (by first | omega | exact rfl | decide) ?_; intros)))
        have SC := ‹Sat _ (_ :: _)›
        refine next q2 c2 _ ?_
        rw [hadd]
        refine SC.to ?_
        iterate 3 (apply Ent.pick; (focus (repeat (first | exact Sel.here | apply Sel.there))))
        exact Fits.out
      refine F29.L0_step ?_
      unfold F29.L0n
      refine iteB_t (decide_eq_true (by omega)) ?_
      refine R0.idx hen ⟨by omega, by omega, ?_⟩
      intro a ha
      subst ha
      (repeat (first | (refine Step.go ?_; intros) | refine iteB_t (by decide) ?_ | refine iteB_f (by decide) ?_ | (refine Duo.mk (by first | omega | exact rfl | decide) ?_; intros)))
      have SA := ‹Sat _ (pt _ (.cells ⟨v.cells⟩ _) :: _)›
      rename_i HA _
      refine iteB_i (fun h => ?_) (fun h => ?_)
      · have h := of_decide_eq_true h
        have e : b.add v = b := if_pos h
        rw [e] at next
        refine next q c _ (SA.to ?_)
        iterate 3 (apply Ent.pick; (focus (repeat (first | exact Sel.here | apply Sel.there))))
        exact Fits.out
      have h := of_decide_eq_false h
      refine iteB_i (fun h0 => ?_) (fun h0 => ?_)
      · have h0 : b.evs.length = 0 := by simpa using h0
        have e : b.add v = ⟨b.evs ++ [v], 1, b.more⟩ := by unfold BE.add; rw [if_neg h, if_pos h0]
        (repeat (first | (refine Step.go ?_; intros) | refine iteB_t (by decide) ?_ | refine iteB_f (by decide) ?_ | (refine Duo.mk (by first | omega | exact rfl | decide) ?_; intros)))
        have SC := ‹Sat _ (_ :: _)›
        refine push _ 1 _ e (by omega) (SC.to ?_)
        iterate 4 (apply Ent.pick; (focus (repeat (first | exact Sel.here | apply Sel.there))))
        exact Fits.out
      have h0 : ¬ b.evs.length = 0 := by
        intro h1; rw [h1] at h0; cases h0
      obtain ⟨y, hy⟩ : ∃ y, b.evs[b.evs.length - 1]? = some y := get_of (by omega)
      have hl : lastE b.evs = y.m := by
        unfold lastE
        rw [List.getLast?_eq_getElem?, hy]
      have hJ := HasI.nat hy
      have eI : IntKind.wrap .i64 (((b.evs.length : Nat) : Int) - (1 : Int)) = ((b.evs.length - 1 : Nat) : Int) := by
        rw [wr64 (by omega) (by omega)]; omega
      rw [eI]
      (repeat (first | (refine Step.go ?_; intros) | refine iteB_t (by decide) ?_ | refine iteB_f (by decide) ?_ | (refine Duo.mk (by first | omega | exact rfl | decide) ?_; intros)))
      refine Sat.idx (f := EV.cells) (E := 36) (z := 7) SA ⟨by omega, by omega, fun r0 o0 hr0 => ?_⟩
      subst hr0
      (repeat (first | (refine Step.go ?_; intros) | refine iteB_t (by decide) ?_ | refine iteB_f (by decide) ?_ | (refine Duo.mk (by first | omega | exact rfl | decide) ?_; intros)))
      refine iteB_i (fun h1 => ?_) (fun h1 => ?_)
      · have h1 : v.m > y.m := of_decide_eq_true h1
        (repeat (first | (refine Step.go ?_; intros) | refine iteB_t (by decide) ?_ | refine iteB_f (by decide) ?_ | (refine Duo.mk (by first | omega | exact rfl | decide) ?_; intros)))
        rename_i HC SC
        rw [wr64 (by omega) (by omega)] at SC
        by_cases h2 : b.revs + 1 > 1000
        · have e : b.add v = ⟨b.evs, b.revs + 1, v.m⟩ := by unfold BE.add; rw [if_neg h, if_neg h0, hl, if_pos h1, if_pos h2]
          refine F29.L1_step ?_
          unfold F29.L1n
          clear SA
          (repeat (first | (refine Step.go ?_; intros) | refine iteB_t (by decide) ?_ | refine iteB_f (by decide) ?_ | (refine Duo.mk (by first | omega | exact rfl | decide) ?_; intros)))
          refine iteB_t (decide_eq_true h2) ?_
          (repeat (first | (refine Step.go ?_; intros) | refine iteB_t (by decide) ?_ | refine iteB_f (by decide) ?_ | (refine Duo.mk (by first | omega | exact rfl | decide) ?_; intros)))
          have SD := ‹Sat _ (_ :: _)›
          rw [e] at next
          refine next (some ⟨r0, o0, none⟩) c _ (SD.to ?_)
          iterate 3 (apply Ent.pick; (focus (repeat (first | exact Sel.here | apply Sel.there))))
          exact Fits.out
        · have e : b.add v = ⟨b.evs ++ [v], b.revs + 1, b.more⟩ := by unfold BE.add; rw [if_neg h, if_neg h0, hl, if_pos h1, if_neg h2]
          refine push _ (b.revs + 1) _ e (by omega) (SC.to ?_)
          iterate 4 (apply Ent.pick; (focus (repeat (first | exact Sel.here | apply Sel.there))))
          exact Fits.out
      · have h1 : ¬ v.m > y.m := of_decide_eq_false h1
        have e : b.add v = ⟨b.evs ++ [v], b.revs, b.more⟩ := by unfold BE.add; rw [if_neg h, if_neg h0, hl, if_neg h1]
        refine push _ b.revs _ e (by omega) (SA.to ?_)
        iterate 4 (apply Ent.pick; (focus (repeat (first | exact Sel.here | apply Sel.there))))
        exact Fits.out
  refine loop n 0 none 0 ⟨[], 0, 0⟩ H2 (by omega) rfl (S2.to (Ent.slNil ?_))
  iterate 2 (apply Ent.pick; (focus (repeat (first | exact Sel.here | apply Sel.there))))
  exact Fits.out
end
end Go.Proofs.YtobolifgehagfaaGreat

set_option linter.unusedVariables false
set_option linter.unusedSimpArgs false
set_option linter.unnecessarySimpa false
namespace Go.Proofs.YtobolifgehagfaaGreat
open Go Go.Den Go.Proofs
section
variable {H H0 : Heap} {l : List HP} {w : Nat} {q : Option Addr} {n c : Nat} {C : List Wa} {k : ByteArray}
theorem toOut_snoc (C : List Wa) (x : Wa) (evs : List EV) : toOut (C ++ [x]) evs = toOut C evs ++ if (forW x evs).isEmpty then [] else [tellT (x.id, forW x evs)] := by
  unfold toOut toTell
  rw [List.filter_append, List.map_append, List.map_append]
  congr 1
  cases h : (forW x evs).isEmpty <;> simp [h]
theorem doBat_ok {evs : List EV} {ep : Option Addr} {en ec : Nat} (hE : RowsAt EV.cells 7 H0 ep evs) (hm : old H0 ∈ l) (hen : evs.length = en) (hb : en ≤ 200) (hn : n ≤ 1000) (S : Sat H (pt w (crO q n c) :: gwL q n c C :: l)) :
    CallsH Tryz.prog 16 ⟨[pA w, .agg ⟨askC 7 k ep en ec⟩]⟩ H (fun e H1 => ∃ (p : Option Addr) (pc : Nat) (us : List TD), e = .returned (.agg ⟨AR.cells ⟨false, 0, none, 0, 0, p, us.length, pc⟩⟩) ∧ us.map TD.out = toOut C evs ∧ Sat H1 (sl TD.cells 39 4 p us.length pc us :: tolds us :: l)) := by
  have hlen := (Sat.slLen S (.tail _ (.head _))).1
  refine F16.calls ?_
  unfold F16.go
  (repeat (first | (refine Step.go ?_; intros) | refine iteB_t (by decide) ?_ | refine iteB_f (by decide) ?_ | (refine Duo.mk (by first | omega | exact rfl | decide) ?_; intros)))
  rename_i r H1 S1 r1 H2 S2
  have S3 : Sat H2 (pt w (crO q n c) :: gwL q n c C :: pt r (.cells ⟨askC 7 k ep en ec⟩ 30) :: pt r1 (gaO none 0 0) :: l) := by
    refine S2.to ?_
    iterate 4 (apply Ent.pick; (focus (repeat (first | exact Sel.here | apply Sel.there))))
    exact Ent.refl
  clear S S1 S2
  refine callD_i (find2_ok (id := 0) (by omega) S3) ?_
  rintro _ H3 ⟨i0, b0, rfl, _, _, rfl⟩
  (repeat (first | (refine Step.go ?_; intros) | refine iteB_t (by decide) ?_ | refine iteB_f (by decide) ?_ | (refine Duo.mk (by first | omega | exact rfl | decide) ?_; intros)))
  rename_i r2 H4 S4
  clear S3
  have loop : ∀ (j i : Nat) (p : Option Addr) (pc : Nat) (us : List TD) (H : Heap), i + j = n → us.map TD.out = toOut (C.take i) evs → us.length ≤ i → Sat H (sl TD.cells 39 4 p us.length pc us :: tolds us :: pt r2 (gaO p us.length pc) :: pt r (.cells ⟨askC 7 k ep en ec⟩ 30) :: pt r1 (gaO none 0 0) :: pt w (crO q n c) :: gwL q n c C :: l) →
      F16.L1 r r1 r2 q n c (n : Nat) (i : Nat) H (fun e H1 => ∃ (p : Option Addr) (pc : Nat) (us : List TD), e = .returned (.agg ⟨AR.cells ⟨false, 0, none, 0, 0, p, us.length, pc⟩⟩) ∧ us.map TD.out = toOut C evs ∧ Sat H1 (sl TD.cells 39 4 p us.length pc us :: tolds us :: l)) := by
    intro j
    induction j with
    | zero =>
      intro i p pc us H hi hus hul S
      obtain rfl : i = n := by omega
      have et : C.take i = C := by rw [← hlen, List.take_length]
      rw [et] at hus
      refine F16.L1_step ?_
      unfold F16.L1n
      refine iteB_f (decide_eq_false (by omega)) ?_
      (repeat (first | (refine Step.go ?_; intros) | refine iteB_t (by decide) ?_ | refine iteB_f (by decide) ?_ | (refine Duo.mk (by first | omega | exact rfl | decide) ?_; intros)))
      have SE := ‹Sat _ (_ :: _)›
      refine ⟨p, pc, us, rfl, hus, SE.to ?_⟩
      iterate 2 (apply Ent.pick; (focus (repeat (first | exact Sel.here | apply Sel.there))))
      iterate 5 (refine Ent.drop ?_)
      exact Ent.refl
    | succ j ih =>
      intro i p pc us H hi hus hul S
      obtain ⟨x, hx⟩ : ∃ x, C[i]? = some x := get_of (by omega)
      have hI := HasI.nat hx
      have et : C.take (i + 1) = C.take i ++ [x] := by rw [List.take_add_one, hx]; rfl
      have hfl := forW_len x evs
      obtain ⟨ra, oa, rfl⟩ := S.slSome (f := Wa.cells) (E := 28) (z := 5) (p := q) (n := n) (c := c) (xs := C) (by simp) (by omega)
      have next : ∀ (p3 : Option Addr) (pc3 : Nat) (us3 : List TD) (H8 : Heap), us3.map TD.out = toOut (C.take (i + 1)) evs → us3.length ≤ i + 1 → Sat H8 (sl TD.cells 39 4 p3 us3.length pc3 us3 :: tolds us3 :: pt r2 (gaO p3 us3.length pc3) :: pt r (.cells ⟨askC 7 k ep en ec⟩ 30) :: pt r1 (gaO none 0 0) :: pt w (crO (some ⟨ra, oa, none⟩) n c) :: gwL (some ⟨ra, oa, none⟩) n c C :: l) →
          F16.L2 r r1 r2 (some ⟨ra, oa, none⟩) n c (n : Nat) (i : Nat) H8 (fun e H1 => ∃ (p : Option Addr) (pc : Nat) (us : List TD), e = .returned (.agg ⟨AR.cells ⟨false, 0, none, 0, 0, p, us.length, pc⟩⟩) ∧ us.map TD.out = toOut C evs ∧ Sat H1 (sl TD.cells 39 4 p us.length pc us :: tolds us :: l)) := by
        intro p3 pc3 us3 H8 hus3 hul3 S8
        refine F16.L2_step ?_
        unfold F16.L2n
        rw [wr64 (by omega) (by omega), show ((i : Nat) : Int) + 1 = ((i + 1 : Nat) : Int) by omega]
        exact ih (i + 1) p3 pc3 us3 H8 (by omega) hus3 hul3 S8
      rw [et, toOut_snoc] at next
      refine F16.L1_step ?_
      unfold F16.L1n
      refine iteB_t (decide_eq_true (by omega)) ?_
      (repeat (first | (refine Step.go ?_; intros) | refine iteB_t (by decide) ?_ | refine iteB_f (by decide) ?_ | (refine Duo.mk (by first | omega | exact rfl | decide) ?_; intros)))
      have SA := ‹Sat _ (pt _ (.cells ⟨x.cells⟩ _) :: _)›
      rename_i rx _ _ _ _ _ _ _ _ _ _ HA SA'
      have EA : ExtH H0 HA := SA.old (by simp [hm])
      clear S
      refine grow_i SA (for_ok (x := x) (hE.ext EA) hen (by omega)) ?_
      rintro ⟨y1, y2⟩ H7 E7 S7
      simp only [List.cons_append, List.nil_append] at S7
      clear SA SA'
      (repeat (first | (refine Step.go ?_; intros) | refine iteB_t (by decide) ?_ | refine iteB_f (by decide) ?_ | (refine Duo.mk (by first | omega | exact rfl | decide) ?_; intros)))
      refine iteB_i (fun h => ?_) (fun h => ?_)
      · have h : 0 < (forW x evs).length := by have := of_decide_eq_true h; omega
        have hne : (forW x evs).isEmpty = false := by
          cases e : forW x evs with
          | nil => rw [e] at h; simp at h
          | cons => rfl
        rw [hne] at next
        simp only [Bool.false_eq_true, if_false] at next
        refine grow_i S7 (sbatch_ok (xs := forW x evs) (S7.rowsAt (E := 36) (n := (forW x evs).length) (k := y2) (by simp)) rfl (by omega)) ?_
        rintro ⟨u1, u2⟩ H8 E8 S8
        simp only [List.cons_append, List.nil_append] at S8
        clear S7
        (repeat (first | (refine Step.go ?_; intros) | refine iteB_t (by decide) ?_ | refine iteB_f (by decide) ?_ | (refine Duo.mk (by first | omega | exact rfl | decide) ?_; intros)))
        have SB := ‹Sat _ (_ :: _)›
        rename_i r4 HB _
        have SC : Sat HB (sl TD.cells 39 4 p us.length pc us :: pt r4 (.cells ⟨TD.cells ⟨x.id, u1, u2, (runE (forW x evs)).revs, (runE (forW x evs)).more, (runE (forW x evs)).evs⟩⟩ 39) :: sl EV.cells 36 7 u1 (runE (forW x evs)).evs.length u2 (runE (forW x evs)).evs :: tolds us :: pt r2 (gaO p us.length pc) :: pt r (.cells ⟨askC 7 k ep en ec⟩ 30) :: pt r1 (gaO none 0 0) :: pt w (crO (some ⟨ra, oa, none⟩) n c) :: gwL (some ⟨ra, oa, none⟩) n c C :: l) := by
          refine SB.to ?_
          iterate 9 (apply Ent.pick; (focus (repeat (first | exact Sel.here | apply Sel.there))))
          first | exact Ent.refl | exact Ent.drop .refl | exact Ent.drop (Ent.drop .refl) | exact Ent.drop (Ent.drop (Ent.drop .refl))
        clear SB S8
        refine SC.slApp (ys := [(⟨x.id, u1, u2, (runE (forW x evs)).revs, (runE (forW x evs)).more, (runE (forW x evs)).evs⟩ : TD)]) (q := some ⟨r4, 0, none⟩) (d := 1) ?_ rfl (by simp) (by simp [isCell]) rfl (by decide) (by omega) fun p3 pc3 H9 SD => ?_
        · simp only [List.flatMap_cons, List.flatMap_nil, List.append_nil]
          exact cellsAt_one (SC.at_ (List.mem_cons_of_mem _ (List.mem_cons_self ..)))
        clear SC
        generalize hT : (⟨x.id, u1, u2, (runE (forW x evs)).revs, (runE (forW x evs)).more, (runE (forW x evs)).evs⟩ : TD) = T at SD
        have hTo : T.out = tellT (x.id, forW x evs) := by rw [← hT]; rfl
        have hTs : sl EV.cells 36 7 u1 (runE (forW x evs)).evs.length u2 (runE (forW x evs)).evs = sl EV.cells 36 7 T.q T.evs.length T.c T.evs := by rw [← hT]
        rw [hTs] at SD
        have el : us.length + 1 = (us ++ [T]).length := by simp
        rw [el] at SD ⊢
        (repeat (first | (refine Step.go ?_; intros) | refine iteB_t (by decide) ?_ | refine iteB_f (by decide) ?_ | (refine Duo.mk (by first | omega | exact rfl | decide) ?_; intros)))
        have SE := ‹Sat _ (_ :: _)›
        refine next p3 pc3 (us ++ [T]) _ (by rw [List.map_append, hus]; simp [hTo]) (by rw [List.length_append]; simp; omega) ?_
        have SF := SE.to (m := sl EV.cells 36 7 T.q T.evs.length T.c T.evs :: tolds us :: sl TD.cells 39 4 p3 (us ++ [T]).length pc3 (us ++ [T]) :: pt r2 (gaO p3 (us ++ [T]).length pc3) :: pt r (.cells ⟨askC 7 k ep en ec⟩ 30) :: pt r1 (gaO none 0 0) :: pt w (crO (some ⟨ra, oa, none⟩) n c) :: gwL (some ⟨ra, oa, none⟩) n c C :: l) (by
          iterate 8 (apply Ent.pick; (focus (repeat (first | exact Sel.here | apply Sel.there))))
          first | exact Ent.refl | exact Ent.drop .refl)
        refine (SF.to tolds_snoc).to ?_
        iterate 7 (apply Ent.pick; (focus (repeat (first | exact Sel.here | apply Sel.there))))
        exact Ent.refl
      · have h : (forW x evs).length = 0 := by have := of_decide_eq_false h; omega
        have hne : (forW x evs).isEmpty = true := by
          rw [List.length_eq_zero_iff.1 h]; rfl
        rw [hne] at next
        simp only [if_true, List.append_nil] at next
        refine next p pc us H7 hus (by omega) (S7.to ?_)
        iterate 7 (apply Ent.pick; (focus (repeat (first | exact Sel.here | apply Sel.there))))
        first | exact Ent.refl | exact Ent.drop .refl | exact Ent.drop (Ent.drop .refl)
  refine F16.L0_step ?_
  unfold F16.L0n
  (repeat (first | (refine Step.go ?_; intros) | refine iteB_t (by decide) ?_ | refine iteB_f (by decide) ?_ | (refine Duo.mk (by first | omega | exact rfl | decide) ?_; intros)))
  have S5 : Sat H4 (pt r2 (gaO none 0 0) :: pt r (.cells ⟨askC 7 k ep en ec⟩ 30) :: pt r1 (gaO none 0 0) :: pt w (crO q n c) :: gwL q n c C :: l) := by
    refine S4.to ?_
    iterate 5 (apply Ent.pick; (focus (repeat (first | exact Sel.here | apply Sel.there))))
    exact Ent.refl
  exact loop n 0 none 0 [] H4 (by omega) rfl (by simp) ((S5.to tolds_nil).to (Ent.slNil .refl))
end
end Go.Proofs.YtobolifgehagfaaGreat

set_option linter.unusedVariables false
set_option linter.unusedSimpArgs false
set_option linter.unnecessarySimpa false
namespace Go.Proofs.YtobolifgehagfaaGreat
open Go Go.Den Go.Proofs
section
variable {H H0 : Heap} {l : List HP}
theorem sameTold_ok {xs : List EV} {p q : Option Addr} {n c d : Nat} {id rv mo : Int} (hR : RowsAt EV.cells 7 H p xs) (hQ : RowsAt EV.cells 7 H q xs) (hn : xs.length = n) (hb : n ≤ 1000000) :
    CallsH Tryz.prog 31 ⟨[tdV id p n c rv mo, tdV id q n d rv mo]⟩ H (Gives (.bool true) H) := by
  have S := Sat.start H
  refine F31.calls ?_
  unfold F31.go
  (repeat (first | (refine Step.go ?_; intros) | refine iteB_t (by decide) ?_ | refine iteB_f (by decide) ?_ | (refine Duo.mk (by first | omega | exact rfl | decide) ?_; intros)))
  rename_i r H1 S1 r1 H2 S2
  have E2 : ExtH H H2 := Sat.grown
  refine iteB_t (beq_self_eq_true _) ?_
  (repeat (first | (refine Step.go ?_; intros) | refine iteB_t (by decide) ?_ | refine iteB_f (by decide) ?_ | (refine Duo.mk (by first | omega | exact rfl | decide) ?_; intros)))
  refine iteB_t (beq_self_eq_true _) ?_
  (repeat (first | (refine Step.go ?_; intros) | refine iteB_t (by decide) ?_ | refine iteB_f (by decide) ?_ | (refine Duo.mk (by first | omega | exact rfl | decide) ?_; intros)))
  refine iteB_t (beq_self_eq_true _) ?_
  (repeat (first | (refine Step.go ?_; intros) | refine iteB_t (by decide) ?_ | refine iteB_f (by decide) ?_ | (refine Duo.mk (by first | omega | exact rfl | decide) ?_; intros)))
  refine gives_i S2 (same_ok (hR.ext E2) (hQ.ext E2) hn hb) fun H3 E3 S3 => ?_
  (repeat (first | (refine Step.go ?_; intros) | refine iteB_t (by decide) ?_ | refine iteB_f (by decide) ?_ | (refine Duo.mk (by first | omega | exact rfl | decide) ?_; intros)))
  exact ⟨rfl, E2.trans E3⟩
theorem same_bat {us vs : List TD} {a b : Option Addr} {n ac bc : Nat} (ha : RowsAt TD.cells 4 H a us) (hb : RowsAt TD.cells 4 H b vs) (ho : us.map TD.out = vs.map TD.out) (hn : us.length = n) (hl : n ≤ 1000) (hu : ∀ t ∈ us, RowsAt EV.cells 7 H t.q t.evs ∧ t.evs.length ≤ 1000000) (hv : ∀ t ∈ vs, RowsAt EV.cells 7 H t.q t.evs) :
    CallsH Tryz.prog 17 ⟨[.agg ⟨[.bool false, .int .i64 0, .slice none 0 0, .slice a n ac]⟩, .agg ⟨[.bool false, .int .i64 0, .slice none 0 0, .slice b n bc]⟩]⟩ H (Gives (.bool true) H) := by
  have hvl : vs.length = n := by have := congrArg List.length ho; rw [List.length_map, List.length_map] at this; omega
  have S := Sat.start H
  refine F17.calls ?_
  unfold F17.go
  (repeat (first | (refine Step.go ?_; intros) | refine iteB_t (by decide) ?_ | refine iteB_f (by decide) ?_ | (refine Duo.mk (by first | omega | exact rfl | decide) ?_; intros)))
  rename_i r H1 S1 r1 H2 S2
  have E2 : ExtH H H2 := Sat.grown
  refine gives_i S2 (same_num (xs := []) (n := 0) RowsAt.nil RowsAt.nil rfl (by omega)) fun H3 E3 S3 => ?_
  clear S S1 S2
  (repeat (first | (refine Step.go ?_; intros) | refine iteB_t (by decide) ?_ | refine iteB_f (by decide) ?_ | (refine Duo.mk (by first | omega | exact rfl | decide) ?_; intros)))
  refine iteB_f (by simp) ?_
  refine F17.L0_step ?_
  unfold F17.L0n
  (repeat (first | (refine Step.go ?_; intros) | refine iteB_t (by decide) ?_ | refine iteB_f (by decide) ?_ | (refine Duo.mk (by first | omega | exact rfl | decide) ?_; intros)))
  have Ra : RowsC H a TD.cells 4 us := ⟨ha⟩
  have Rb : RowsC H b TD.cells 4 vs := ⟨hb⟩
  have loop : ∀ (k i : Nat) (H' : Heap), i + k = n → Sat H' (pt r1 (.cells ⟨[.bool false, .int .i64 0, .slice none 0 0, .slice b n bc]⟩ 55) :: pt r (.cells ⟨[.bool false, .int .i64 0, .slice none 0 0, .slice a n ac]⟩ 55) :: [old H]) → F17.L1 r r1 (n : Nat) (i : Nat) H' (Gives (.bool true) H) := by
    intro k
    induction k with
    | zero =>
      intro i H' hi S
      refine F17.L1_step ?_
      unfold F17.L1n
      refine iteB_f (decide_eq_false (by omega)) ?_
      exact ⟨rfl, S.old (by simp)⟩
    | succ k ih =>
      intro i H' hi S
      obtain ⟨t, ht⟩ : ∃ t, us[i]? = some t := get_of (by omega)
      obtain ⟨u, hu'⟩ : ∃ u, vs[i]? = some u := get_of (by omega)
      have hI := HasI.nat ht
      have hJ := HasI.nat hu'
      have hout : t.out = u.out := by
        have := congrArg (·[i]?) ho
        simp only [List.getElem?_map, ht, hu', Option.map_some] at this
        exact Option.some.inj this
      have E0 : ExtH H H' := S.old (by simp)
      obtain ⟨h1, h2⟩ := hu t (List.mem_of_getElem? ht)
      have h3 := hv u (List.mem_of_getElem? hu')
      obtain ⟨tid, tq, tc, trv, tmo, tev⟩ := t
      obtain ⟨uid, uq, uc, urv, umo, uev⟩ := u
      cases hout
      refine F17.L1_step ?_
      unfold F17.L1n
      refine iteB_t (decide_eq_true (by omega)) ?_
      (repeat (first | (refine Step.go ?_; intros) | refine iteB_t (by decide) ?_ | refine iteB_f (by decide) ?_ | (refine Duo.mk (by first | omega | exact rfl | decide) ?_; intros)))
      refine Ra.idx hn ⟨by omega, by omega, ?_⟩
      intro a1 e1
      subst e1
      (repeat (first | (refine Step.go ?_; intros) | refine iteB_t (by decide) ?_ | refine iteB_f (by decide) ?_ | (refine Duo.mk (by first | omega | exact rfl | decide) ?_; intros)))
      refine Rb.idx hvl ⟨by omega, by omega, ?_⟩
      intro b1 e2
      subst e2
      (repeat (first | (refine Step.go ?_; intros) | refine iteB_t (by decide) ?_ | refine iteB_f (by decide) ?_ | (refine Duo.mk (by first | omega | exact rfl | decide) ?_; intros)))
      refine gives_i S (sameTold_ok (h1.ext E0) (h3.ext E0) rfl h2) fun H5 E5 S5 => ?_
      clear S
      (repeat (first | (refine Step.go ?_; intros) | refine iteB_t (by decide) ?_ | refine iteB_f (by decide) ?_ | (refine Duo.mk (by first | omega | exact rfl | decide) ?_; intros)))
      rw [wr64 (by omega) (by omega), show ((i : Nat) : Int) + 1 = ((i + 1 : Nat) : Int) by omega]
      exact ih (i + 1) H5 (by omega) S5
  exact loop n 0 H3 (by omega) S3
theorem toOut_perm {C L : List Wa} {evs : List EV} (h : C.Perm L) : (toOut C evs).Perm (toOut L evs) := by
  unfold toOut toTell
  exact ((h.filter _).map _).map _
theorem toOut_srt {C : List Wa} {evs : List EV} (h : IdS C) : (toOut C evs).Pairwise fun a b => a.1 < b.1 := by
  unfold toOut toTell
  rw [List.pairwise_map, List.pairwise_map]
  exact h.sublist List.filter_sublist
theorem outs_eq {us ts vs : List TD} {C L : List Wa} {evs : List EV} (h1 : us.Perm ts) (h2 : us.Pairwise fun a b => a.id < b.id) (h3 : (ts.map TD.out).Perm (toOut L evs)) (hC : C.Perm L) (hs : IdS C) (h4 : vs.map TD.out = toOut C evs) : us.map TD.out = vs.map TD.out := by
  rw [h4]
  refine List.Perm.eq_of_pairwise (le := fun a b : OutT => a.1 < b.1) (fun a b _ _ x y => by omega) ?_ (toOut_srt hs) (((h1.map _).trans h3).trans (toOut_perm hC).symm)
  rw [List.pairwise_map]
  exact h2
end
end Go.Proofs.YtobolifgehagfaaGreat

set_option linter.unusedVariables false
set_option linter.unusedSimpArgs false
set_option linter.unnecessarySimpa false
namespace Go.Proofs.YtobolifgehagfaaGreat
open Go Go.Den Go.Proofs
section
variable {H H0 : Heap} {l : List HP} {xs : List Wa} {k : ByteArray} {p : Option Addr} {n c : Nat}
theorem grLastE_ok {evs : List EV} {ep : Option Addr} {en ec : Nat} (hE : RowsAt EV.cells 7 H0 ep evs) (hen : evs.length = en) (hok : ∀ v ∈ evs, EvOk v) (hR : RowsAt Wa.cells 5 H0 p xs) (hn : xs.length = n) (hb : n ≤ 2147483647) (hz : ∀ x ∈ xs, WaSz x) :
    CallsH Tryz.prog 8 ⟨[.slice p n c, .agg ⟨askC 7 k ep en ec⟩]⟩ H0 (Gives (.bool true) H0) := by
  have S := Sat.start H0
  refine F8.calls ?_
  unfold F8.go
  (repeat (first | (refine Step.go ?_; intros) | refine iteB_t (by decide) ?_ | refine iteB_f (by decide) ?_ | (refine Duo.mk (by first | omega | exact rfl | decide) ?_; intros)))
  rename_i r0 H1 S1
  have E1 : ExtH H0 H1 := Sat.grown
  refine callD_i (grAfter_ok (xs := xs) (kd := 7) (qk := k) (ep := ep) (en := en) (ec := ec) (evs := evs) (.inr rfl) (hR.ext E1) (hE.ext E1) hen hn hb) ?_
  rintro _ H2 ⟨q, qc, b, rfl, hg, S2⟩
  have E2 : ExtH H0 H2 := E1.trans (S2.old (by simp))
  clear S S1
  (repeat (first | (refine Step.go ?_; intros) | refine iteB_t (by decide) ?_ | refine iteB_f (by decide) ?_ | (refine Duo.mk (by first | omega | exact rfl | decide) ?_; intros)))
  refine iteB_i (fun h => live_end E2) (fun h => ?_)
  have hg := hg (by simpa using h)
  have hx : ∀ x ∈ xs, WaOk x := fun x hx => ⟨by have := (hz x hx).key; omega, by have := (hz x hx).e; omega, (hg.pr x hx).pos, (hg.pr x hx).lt⟩
  have hfew := hg.few
  refine callD_i (group3_ok (H0 := H1) (xs := xs) (n := n + 1) (by omega) (by omega) hx (by simp) (lastBat (hE.ext E1) hen hok hg) S2) ?_
  rintro _ H3 ⟨gq, gc, av, a, X, rfl, hal, ha, ⟨q1, c1, us, ts, rfl, hu1, hu2, hu3, rfl⟩, S3⟩
  clear S2
  obtain ⟨ra, oa, rfl⟩ := S3.slSome (f := idC) (E := 30) (z := 10) (p := q) (n := n + 1) (c := qc) (xs := opsL xs 7 k ep en ec) (by simp) (by omega)
  obtain ⟨rb, ob, rfl⟩ := S3.slSome (f := AR.cells) (E := 55) (z := 4) (p := gq) (n := n + 1) (c := gc) (xs := av) (by simp) (by omega)
  (repeat (first | (refine Step.go ?_; intros) | refine iteB_t (by decide) ?_ | refine iteB_f (by decide) ?_ | (refine Duo.mk (by first | omega | exact rfl | decide) ?_; intros)))
  rename_i w H4 S4 wn H5 S5
  have S6 : Sat H5 (pt w (crO none 0 0) :: gwL none 0 0 [] :: pt wn (wnO false 0 none 0 0 none 0 0) :: sl AR.cells 55 4 (some ⟨rb, ob, none⟩) (n + 1) gc av :: star [sl TD.cells 39 4 q1 us.length c1 us, tolds ts] :: sl idC 30 10 (some ⟨ra, oa, none⟩) (n + 1) qc (opsL xs 7 k ep en ec) :: Den.old H1 :: []) := by
    refine S5.to (Ent.trans (Ent.slNil (f := Wa.cells) (E := 28) (z := 5) Ent.refl) ?_)
    iterate 6 (apply Ent.pick; (focus (repeat (first | exact Sel.here | apply Sel.there))))
    exact Ent.refl
  clear S3 S4 S5
  have loop : ∀ (j i : Nat) (b : Bool) (v : Int) (uq : Option Addr) (un uc : Nat) (ut : Option Addr) (utn utc : Nat) (H : Heap), i + j = n → CrAt w (allW (xs.take i)) (pt wn (wnO b v uq un uc ut utn utc) :: sl AR.cells 55 4 (some ⟨rb, ob, none⟩) (n + 1) gc av :: star [sl TD.cells 39 4 q1 us.length c1 us, tolds ts] :: sl idC 30 10 (some ⟨ra, oa, none⟩) (n + 1) qc (opsL xs 7 k ep en ec) :: Den.old H1 :: []) H →
      F8.L0 (some ⟨ra, oa, none⟩) (n + 1) qc (some ⟨rb, ob, none⟩) (n + 1) gc w wn (some ⟨ra, oa, none⟩) (n + 1) qc (((n + 1 : Nat) : Nat) : Int) (i : Nat) H (Gives (.bool true) H0) := by
    intro j
    induction j with
    | zero =>
      intro i b v uq un uc ut utn utc H hi A
      obtain rfl : i = n := by omega
      obtain ⟨cq, cn, cc, C, hC, hcl, S⟩ := A
      have et : xs.take i = xs := by rw [← hn, List.take_length]
      rw [et] at hC
      have hr : (opsL xs 7 k ep en ec)[i]? = some (askC 7 k ep en ec) := by rw [← hn]; simp
      have hI := HasI.nat hr
      refine F8.L0_step ?_
      unfold F8.L0n
      refine iteB_t (decide_eq_true (by omega)) ?_
      (repeat (first | (refine Step.go ?_; intros) | refine iteB_t (by decide) ?_ | refine iteB_f (by decide) ?_ | (refine Duo.mk (by first | omega | exact rfl | decide) ?_; intros)))
      have SA := ‹Sat _ (pt _ (.cells ⟨askC 7 k ep en ec⟩ _) :: _)›
      rename_i HA _
      have SB : Sat HA (pt w (crO cq cn cc) :: gwL cq cn cc C :: pt wn (wnO b v uq un uc ut utn utc) :: sl AR.cells 55 4 (some ⟨rb, ob, none⟩) (i + 1) gc av :: star [sl TD.cells 39 4 q1 us.length c1 us, tolds ts] :: sl idC 30 10 (some ⟨ra, oa, none⟩) (i + 1) qc (opsL xs 7 k ep en ec) :: Den.old H1 :: []) := by
        refine SA.to ?_
        iterate 7 (apply Ent.pick; (focus (repeat (first | exact Sel.here | apply Sel.there))))
        exact Ent.drop .refl
      clear SA S
      have hcn : cn ≤ 1000 := by
        rw [← hcl, hC.perm.length_eq]
        have := fold_len xs []
        simp only [List.length_nil] at this
        unfold allW
        omega
      refine callD_i (doBat_ok (H0 := H1) (k := k) (hE.ext E1) (by simp) hen (by have := hg.evn; omega) (by omega) SB) ?_
      rintro _ HB ⟨q2, c2, vs, rfl, hvs, SC⟩
      clear SB
      have hout := outs_eq hu1 hu2 hu3 hC.perm hC.srt hvs
      have hvl : vs.length = us.length := by have := congrArg List.length hout; rw [List.length_map, List.length_map] at this; omega
      have hul : us.length ≤ 1000 := by
        have h1 := congrArg List.length hvs
        rw [List.length_map] at h1
        unfold toOut toTell at h1
        rw [List.length_map, List.length_map] at h1
        have := List.length_filter_le (fun x => !(forW x evs).isEmpty) C
        omega
      have hevl : ∀ t ∈ us, t.evs.length ≤ 1000000 := by
        intro t ht
        have h1 : t.out ∈ toOut C evs := by rw [← hvs, ← hout]; exact List.mem_map_of_mem ht
        unfold toOut toTell at h1
        obtain ⟨y, hy, e1⟩ := List.mem_map.1 h1
        obtain ⟨x, _, e2⟩ := List.mem_map.1 hy
        have e3 : t.evs = (runE y.2).evs := (congrArg (fun o : OutT => o.2.1) e1).symm
        have h2 := runE_len y.2
        have e4 : y.2 = forW x evs := (congrArg Prod.snd e2).symm
        have h3 := forW_len x evs
        have h4 := hg.evn
        rw [e3]
        rw [e4] at h2 ⊢
        omega
      rw [hvl] at SC ⊢
      (repeat (first | (refine Step.go ?_; intros) | refine iteB_t (by decide) ?_ | refine iteB_f (by decide) ?_ | (refine Duo.mk (by first | omega | exact rfl | decide) ?_; intros)))
      have SD := ‹Sat _ (_ :: _)›
      rename_i HD _
      have SE : Sat HD (pt wn (wnO false 0 none 0 0 q2 us.length c2) :: sl AR.cells 55 4 (some ⟨rb, ob, none⟩) (i + 1) gc av :: star [sl TD.cells 39 4 q1 us.length c1 us, tolds ts] :: sl TD.cells 39 4 q2 us.length c2 vs :: tolds vs :: Den.old H1 :: []) := by
        refine SD.to ?_
        iterate 6 (apply Ent.pick; (focus (repeat (first | exact Sel.here | apply Sel.there))))
        exact Ent.nil
      clear SC SD
      have ED : ExtH H0 HD := E1.trans (SE.old (by simp))
      rw [wr64 (by omega) (by omega)]
      refine F8.L0_step ?_
      unfold F8.L0n
      refine iteB_f (decide_eq_false (by omega)) ?_
      refine iteB_t (by simp) ?_
      have eI : IntKind.wrap .i64 ((((i + 1 : Nat) : Nat) : Int) - (1 : Int)) = ((i : Nat) : Int) := by rw [wr64 (by omega) (by omega)]; omega
      rw [eI]
      rw [Nat.add_sub_cancel] at ha
      have hIa := HasI.nat ha
      (repeat (first | (refine Step.go ?_; intros) | refine iteB_t (by decide) ?_ | refine iteB_f (by decide) ?_ | (refine Duo.mk (by first | omega | exact rfl | decide) ?_; intros)))
      have SX := Sat.star (m := [sl TD.cells 39 4 q1 us.length c1 us, tolds ts]) (SE.to (m := star [sl TD.cells 39 4 q1 us.length c1 us, tolds ts] :: []) (by
        iterate 1 (apply Ent.pick; (focus (repeat (first | exact Sel.here | apply Sel.there))))
        exact Ent.nil))
      have SV : Sat HD (tolds vs :: []) := SE.to (by
        iterate 1 (apply Ent.pick; (focus (repeat (first | exact Sel.here | apply Sel.there))))
        exact Ent.nil)
      refine gives_i SE (same_bat (us := us) (vs := vs) (n := us.length) (SX.rowsAt (E := 39) (n := us.length) (k := c1) (by simp)) (SE.rowsAt (E := 39) (n := us.length) (k := c2) (by simp)) hout rfl hul (fun t ht => ⟨tolds_rows (hu1.mem_iff.1 ht) (SX.to (Ent.drop .refl)), hevl t ht⟩) (fun t ht => tolds_rows ht SV)) fun HF EF SF => ?_
      (repeat (first | (refine Step.go ?_; intros) | refine iteB_t (by decide) ?_ | refine iteB_f (by decide) ?_ | (refine Duo.mk (by first | omega | exact rfl | decide) ?_; intros)))
      exact live_end (ED.trans EF)
    | succ j ih =>
      intro i b v uq un uc ut utn utc H hi A
      obtain ⟨cq, cn, cc, C, hC, hcl, S⟩ := A
      obtain ⟨x, hxi⟩ : ∃ x, xs[i]? = some x := get_of (by omega)
      have hr : (opsL xs 7 k ep en ec)[i]? = some (addC x) := by
        rw [List.getElem?_append_left (by rw [List.length_map]; omega), List.getElem?_map, hxi]; rfl
      have hI := HasI.nat hr
      have hlen : cn ≤ i := by
        rw [← hcl, hC.perm.length_eq]
        have := fold_len (xs.take i) []
        rw [List.length_take] at this
        simp only [List.length_nil] at this
        unfold allW
        omega
      refine F8.L0_step ?_
      unfold F8.L0n
      refine iteB_t (decide_eq_true (by omega)) ?_
      (repeat (first | (refine Step.go ?_; intros) | refine iteB_t (by decide) ?_ | refine iteB_f (by decide) ?_ | (refine Duo.mk (by first | omega | exact rfl | decide) ?_; intros)))
      have SA := ‹Sat _ (pt _ (.cells ⟨addC x⟩ _) :: _)›
      rename_i HA _
      have SB : Sat HA (pt w (crO cq cn cc) :: gwL cq cn cc C :: pt wn (wnO b v uq un uc ut utn utc) :: sl AR.cells 55 4 (some ⟨rb, ob, none⟩) (n + 1) gc av :: star [sl TD.cells 39 4 q1 us.length c1 us, tolds ts] :: sl idC 30 10 (some ⟨ra, oa, none⟩) (n + 1) qc (opsL xs 7 k ep en ec) :: Den.old H1 :: []) := by
        refine SA.to ?_
        iterate 7 (apply Ent.pick; (focus (repeat (first | exact Sel.here | apply Sel.there))))
        exact Ent.drop .refl
      clear SA S
      refine callD_i (doAdd_ok (x := x) hC (by omega) SB) ?_
      rintro _ HB ⟨⟨a2, rfl⟩, cq2, cn2, cc2, C2, hC2, hcl2, SC⟩
      clear SB
      (repeat (first | (refine Step.go ?_; intros) | refine iteB_t (by decide) ?_ | refine iteB_f (by decide) ?_ | (refine Duo.mk (by first | omega | exact rfl | decide) ?_; intros)))
      have SD := ‹Sat _ (_ :: _)›
      rename_i HD _
      rw [wr64 (by omega) (by omega), show ((i : Nat) : Int) + 1 = ((i + 1 : Nat) : Int) by omega]
      refine ih (i + 1) a2.ok a2.n a2.q a2.qn a2.qc a2.t a2.tn a2.tc _ (by omega) ⟨cq2, cn2, cc2, C2, ?_, hcl2, SD.to ?_⟩
      · rw [List.take_add_one, hxi]
        unfold allW at hC2 ⊢
        rw [List.foldl_append]
        exact hC2
      · iterate 7 (apply Ent.pick; (focus (repeat (first | exact Sel.here | apply Sel.there))))
        exact Ent.refl
  exact loop n 0 false 0 none 0 0 none 0 0 H5 (by omega) ⟨none, 0, 0, [], cr_nil, rfl, S6⟩
theorem groupBatch_ok {evs : List EV} {ep : Option Addr} {en ec : Nat} (hR : RowsAt Wa.cells 5 H0 p xs) (hn : xs.length = n) (hE : RowsAt EV.cells 7 H0 ep evs) (hen : evs.length = en) : CallsH Tryz.prog 3 ⟨[.slice p n c, .slice ep en ec]⟩ H0 (Gives (.bool true) H0) := by
  refine F3.calls ?_
  unfold F3.go
  refine callD_i (fit20 hR hn) ?_
  rintro _ H1 ⟨E1, b1, rfl, hb1⟩
  refine ⟨_, rfl, ?_⟩
  refine iteB_i (fun h => ⟨rfl, E1⟩) (fun h => ?_)
  obtain ⟨hnb, hz⟩ := hb1 (by simpa using h)
  refine callD_i (fit18 (hE.ext E1) hen) ?_
  rintro _ H2 ⟨E2, b2, rfl, hb2⟩
  refine ⟨_, rfl, ?_⟩
  refine iteB_i (fun h => ⟨rfl, E1.trans E2⟩) (fun h => ?_)
  obtain ⟨_, hok⟩ := hb2 (by simpa using h)
  have E3 := E1.trans E2
  refine gives_i (Sat.start H2) (grLastE_ok (hE.ext E3) hen hok (hR.ext E3) hn hnb hz) fun H3 E4 S3 => ?_
  refine ⟨_, rfl, ?_⟩
  exact ⟨rfl, E3.trans E4⟩
end
end Go.Proofs.YtobolifgehagfaaGreat
