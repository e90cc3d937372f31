/- What functions of this seat do, each proved by a walk; no condition. -/
import Derived.Test.YtkkookljlencgaaGreatHM5
import Derived.Test.YtkkookljlencgaaGreatHC3
set_option linter.unusedVariables false
set_option linter.unusedSimpArgs false
set_option linter.unnecessarySimpa false
set_option maxRecDepth 100000
namespace Go.Proofs.YtkkookljlencgaaGreat
open Go Go.Den Go.Proofs
/-! The reference: rows as an answer. -/
section
variable {H H0 : Heap} {l m : List HP} {g : PH}
theorem apStr {p : Option Addr} {n c r : Nat} {X : List ByteArray} {s : ByteArray} {K : Option Addr → Nat → Nat → Heap → Prop} [S : Sat H l] [T : Take (sl strC 9 1 p n c X) l m] (hA : H[r]? = some (.cells ⟨strC s⟩ 9)) (hn : n ≤ 10000) (k : ∀ p' c' H1, Sat H1 (sl strC 9 1 p' (n + 1) c' (X ++ [s]) :: m) → K p' (n + 1) c' H1) :
    apD H 1 16 [(.string (ByteArray.mk #[]))] 9 p n c (some ⟨r, 0, none⟩) 1 K := by
  refine (S.bring T.out).slApp (ys := [s]) (q := some ⟨r, 0, none⟩) (d := 1) ?_ rfl (fun _ _ => rfl) cell_str rfl (by decide) (by omega) fun q2 c2 H4 S5 => ?_
  · simp only [List.flatMap_cons, List.flatMap_nil, List.append_nil]
    exact cellsAt_one hA
  · exact k q2 c2 H4 S5
theorem told_ok {q : Option Addr} {n c : Nat} {xs : List Txt} (hR : RowsAt rowC 2 H0 q xs) (hn : xs.length = n) (hb : n ≤ 1000) :
    CallsH Tryz.prog 16 ⟨[.slice q n c]⟩ H0 (fun en H1 => ∃ x : (Option Addr × Nat) × (Option Addr × Nat), en = .returned (.agg ⟨[.int .i64 0, .int .i64 (n : Int), .slice x.1.1 n x.1.2, .slice x.2.1 n x.2.2]⟩) ∧ Sat H1 ([sl strC 9 1 x.1.1 n x.1.2 (xs.map (·.1)), sl strC 9 1 x.2.1 n x.2.2 (xs.map (·.2))] ++ [old H0])) := by
  refine G16.calls ?_
  unfold G16.go
  have S := Sat.start H0
  refine newX S fun s2 H1 E1 S1 => ?_
  clear S
  refine newX S1 fun a H2 E2 S2 => ?_
  clear S1
  (repeat (first | (refine Step.go ?_; intros) | refine iteB_t (by decide) ?_ | refine iteB_f (by decide) ?_ | (refine Duo.mk (by first | omega | exact rfl | decide) ?_; intros) | (refine Duo.mk (Clo.mk (by kernel_rfl)) ?_; intros)))
  rename_i H3 S3 H4 S4 H5 S5 H6 S6
  clear S2 S3 S4 S5
  have loop : ∀ (j i : Nat) (p1 p2 : Option Addr) (d1 d2 : Nat) (H : Heap), i + j = n → Sat H (pt a (.cells ⟨[.int .i64 0, .int .i64 (n : Int), .slice p1 i d1, .slice p2 i d2]⟩ 46) :: sl strC 9 1 p1 i d1 ((xs.take i).map (·.1)) :: sl strC 9 1 p2 i d2 ((xs.take i).map (·.2)) :: pt s2 ansO :: [old H0]) →
      G16.L0 s2 a q n c (n : Int) (i : Int) H (fun en H1 => ∃ x : (Option Addr × Nat) × (Option Addr × Nat), en = .returned (.agg ⟨[.int .i64 0, .int .i64 (n : Int), .slice x.1.1 n x.1.2, .slice x.2.1 n x.2.2]⟩) ∧ Sat H1 ([sl strC 9 1 x.1.1 n x.1.2 (xs.map (·.1)), sl strC 9 1 x.2.1 n x.2.2 (xs.map (·.2))] ++ [old H0])) := by
    intro j
    induction j with
    | zero =>
      intro i p1 p2 d1 d2 H hi S
      obtain rfl : i = n := by omega
      rw [List.take_of_length_le (by omega)] at S
      refine G16.L0_step ?_
      unfold G16.L0n
      refine iteB_f (decide_eq_false (by omega)) ?_
      (repeat (first | (refine Step.go ?_; intros) | refine iteB_t (by decide) ?_ | refine iteB_f (by decide) ?_ | (refine Duo.mk (by first | omega | exact rfl | decide) ?_; intros) | (refine Duo.mk (Clo.mk (by kernel_rfl)) ?_; intros)))
      have SD := ‹Sat _ (_ :: _)›
      refine ⟨((p1, d1), (p2, d2)), rfl, SD.to ?_⟩
      show Ent _ (sl strC 9 1 p1 i d1 (xs.map (·.1)) :: sl strC 9 1 p2 i d2 (xs.map (·.2)) :: [old H0])
      iterate 2 (apply Ent.pick; (focus (repeat (first | exact Sel.here | apply Sel.there))))
      exact Ent.drop (Ent.drop .refl)
    | succ j ih =>
      intro i p1 p2 d1 d2 H hi S
      obtain ⟨x, hx⟩ : ∃ x, xs[i]? = some x := get_of (by omega)
      have hI := HasI.nat hx
      have R0 : RowsC H0 q rowC 2 xs := ⟨hR⟩
      have e1 : (xs.take i).map (·.1) ++ [x.1] = (xs.take (i + 1)).map (·.1) := by rw [List.take_add_one, hx, List.map_append]; rfl
      have e2 : (xs.take i).map (·.2) ++ [x.2] = (xs.take (i + 1)).map (·.2) := by rw [List.take_add_one, hx, List.map_append]; rfl
      refine G16.L0_step ?_
      unfold G16.L0n
      refine iteB_t (decide_eq_true (by omega)) ?_
      refine R0.idx hn ⟨by omega, by omega, ?_⟩
      intro b hb
      subst hb
      (repeat (first | (refine Step.go ?_; intros) | refine iteB_t (by decide) ?_ | refine iteB_f (by decide) ?_ | (refine Duo.mk (by first | omega | exact rfl | decide) ?_; intros) | (refine Duo.mk (Clo.mk (by kernel_rfl)) ?_; intros)))
      rename_i r H1 S1 H2 S2 H3 S3
      clear S S1 S2
      have fin : ∀ (H9 : Heap) (p3 p4 : Option Addr) (d3 d4 : Nat), Sat H9 (pt a (.cells ⟨[.int .i64 0, .int .i64 (n : Int), .slice p3 (i + 1) d3, .slice p4 (i + 1) d4]⟩ 46) :: sl strC 9 1 p3 (i + 1) d3 ((xs.take i).map (·.1) ++ [x.1]) :: sl strC 9 1 p4 (i + 1) d4 ((xs.take i).map (·.2) ++ [x.2]) :: pt s2 ansO :: [old H0]) →
          G16.L1 s2 a (some b) n c (n : Int) (i : Int) H9 (fun en H1 => ∃ x : (Option Addr × Nat) × (Option Addr × Nat), en = .returned (.agg ⟨[.int .i64 0, .int .i64 (n : Int), .slice x.1.1 n x.1.2, .slice x.2.1 n x.2.2]⟩) ∧ Sat H1 ([sl strC 9 1 x.1.1 n x.1.2 (xs.map (·.1)), sl strC 9 1 x.2.1 n x.2.2 (xs.map (·.2))] ++ [old H0])) := by
        intro H9 p3 p4 d3 d4 S9
        refine G16.L1_step ?_
        unfold G16.L1n
        rw [wr64 (by omega) (by omega), show ((i : Nat) : Int) + 1 = ((i + 1 : Nat) : Int) by omega]
        rw [e1, e2] at S9
        exact ih (i + 1) p3 p4 d3 d4 H9 (by omega) S9
      repeat' (refine And.intro ?_ ?_)
      all_goals (
        (repeat (first | (refine Step.go ?_; intros) | refine iteB_t (by decide) ?_ | refine iteB_f (by decide) ?_ | (refine Duo.mk (by first | omega | exact rfl | decide) ?_; intros) | (refine Duo.mk (Clo.mk (by kernel_rfl)) ?_; intros)))
        refine apStr (X := (xs.take i).map (·.1)) (s := x.1) (Sat.obj ‹_›) (by omega) fun p3 d3 HA SA => ?_
        (repeat (first | (refine Step.go ?_; intros) | refine iteB_t (by decide) ?_ | refine iteB_f (by decide) ?_ | (refine Duo.mk (by first | omega | exact rfl | decide) ?_; intros) | (refine Duo.mk (Clo.mk (by kernel_rfl)) ?_; intros)))
        refine apStr (X := (xs.take i).map (·.2)) (s := x.2) (Sat.obj ‹_›) (by omega) fun p4 d4 HB SB => ?_
        (repeat (first | (refine Step.go ?_; intros) | refine iteB_t (by decide) ?_ | refine iteB_f (by decide) ?_ | (refine Duo.mk (by first | omega | exact rfl | decide) ?_; intros) | (refine Duo.mk (Clo.mk (by kernel_rfl)) ?_; intros)))
        refine fin _ p3 p4 d3 d4 (Sat.to ‹_› ?_)
        iterate 4 (apply Ent.pick; (focus (repeat (first | exact Sel.here | apply Sel.there))))
        repeat (first | exact Ent.refl | apply Ent.drop))
  refine loop n 0 none none 0 0 H6 (by omega) (S6.to ?_)
  apply Ent.pick
  · focus (repeat (first | exact Sel.here | apply Sel.there))
  refine Ent.slNil (Ent.slNil ?_)
  exact .refl
end
end Go.Proofs.YtkkookljlencgaaGreat

set_option linter.unusedVariables false
set_option linter.unusedSimpArgs false
set_option linter.unnecessarySimpa false
set_option maxRecDepth 100000
namespace Go.Proofs.YtkkookljlencgaaGreat
open Go Go.Den Go.Proofs
/-! The reference: what readers are told. -/
def restS (m : Int) (b : List Txt) : Int := if m > 0 then m - (b.length : Int) else m
def readSp (k e : ByteArray) (m : Int) (D R : List Txt) : List Txt :=
  if m > 0 ∧ ((fromS k e m R).length : Int) = m then fromS k e m R else fromS k e (restS m (fromS k e m R)) D ++ fromS k e m R
theorem fromS_len {k e : ByteArray} {m : Int} {L : List Txt} : (fromS k e m L).length ≤ L.length := by
  unfold fromS
  have : ∀ (L T : List Txt), (L.foldl (stepT k e m) T).length ≤ T.length + L.length := by
    intro L
    induction L with
    | nil => intro T; simp
    | cons x L ih =>
      intro T
      have h1 := ih (stepT k e m T x)
      have h2 := stepT_len (k := k) (e := e) (n := m) (T := T) (t := x)
      rw [List.foldl_cons, List.length_cons]
      omega
  simpa using this L []
section
variable {H H0 : Heap} {l m : List HP} {g : PH}
theorem readSp_ok {q p : Option Addr} {n c n2 c2 : Nat} {D R : List Txt} {k e : ByteArray} {m : Int} (he : e.size ≠ 0) (hD : RowsAt rowC 2 H0 q D) (hR : RowsAt rowC 2 H0 p R) (hn : D.length = n) (hb : n ≤ 1000) (hn2 : R.length = n2) (hb2 : n2 ≤ 1000) (hm : -9223372036854775808 ≤ m ∧ m < 9223372036854775808) :
    CallsH Tryz.prog 18 ⟨[.agg ⟨[.slice q n c, .slice p n2 c2]⟩, .string k, .string e, .int .i64 m]⟩ H0 (fun en H1 => ∃ x : Option Addr × Nat, en = .returned (.slice x.1 (readSp k e m D R).length x.2) ∧ Sat H1 ([sl rowC 94 2 x.1 (readSp k e m D R).length x.2 (readSp k e m D R)] ++ [old H0])) := by
  refine F18.calls ?_
  unfold F18.go
  have S := Sat.start H0
  refine newX S fun r H1 E1 S1 => ?_
  clear S
  (repeat (first | (refine Step.go ?_; intros) | refine iteB_t (by decide) ?_ | refine iteB_f (by decide) ?_ | (refine Duo.mk (by first | omega | exact rfl | decide) ?_; intros) | (refine Duo.mk (Clo.mk (by kernel_rfl)) ?_; intros)))
  refine grow_i (ι := Option Addr × Nat) (v := fun x => .slice x.1 (fromS k e m R).length x.2) (m := fun x => [sl rowC 94 2 x.1 (fromS k e m R).length x.2 (fromS k e m R)]) S1 (from_ok (k := k) (e := e) (m := m) (c := c2) he (hR.ext E1) hn2 hb2) fun x H2 E2 S2 => ?_
  clear S1
  obtain ⟨a, d⟩ := x
  replace S2 : Sat H2 (sl rowC 94 2 a (fromS k e m R).length d (fromS k e m R) :: pt r (.cells ⟨[.slice q n c, .slice p n2 c2]⟩ 39) :: [old H0]) := S2
  have hbl : (fromS k e m R).length ≤ 1000 := by have := fromS_len (k := k) (e := e) (m := m) (L := R); omega
  refine ⟨_, _, _, rfl, ?_⟩
  have l1 : ¬ (m > 0 ∧ ((fromS k e m R).length : Int) = m) → F18.L1 k e r a (fromS k e m R).length d (restS m (fromS k e m R)) H2 (fun en H1 => ∃ x : Option Addr × Nat, en = .returned (.slice x.1 (readSp k e m D R).length x.2) ∧ Sat H1 ([sl rowC 94 2 x.1 (readSp k e m D R).length x.2 (readSp k e m D R)] ++ [old H0])) := by
    intro hne
    have er : readSp k e m D R = fromS k e (restS m (fromS k e m R)) D ++ fromS k e m R := by unfold readSp; rw [if_neg hne]
    refine F18.L1_step ?_
    unfold F18.L1n
    refine newX S2 fun r1 H3 E3 S3 => ?_
    (repeat (first | (refine Step.go ?_; intros) | refine iteB_t (by decide) ?_ | refine iteB_f (by decide) ?_ | (refine Duo.mk (by first | omega | exact rfl | decide) ?_; intros) | (refine Duo.mk (Clo.mk (by kernel_rfl)) ?_; intros)))
    refine grow_i (ι := Option Addr × Nat) (v := fun x => .slice x.1 (fromS k e (restS m (fromS k e m R)) D).length x.2) (m := fun x => [sl rowC 94 2 x.1 (fromS k e (restS m (fromS k e m R)) D).length x.2 (fromS k e (restS m (fromS k e m R)) D)]) S3 (from_ok (k := k) (e := e) (m := restS m (fromS k e m R)) (c := c) he (((hD.ext E1).ext E2).ext E3) hn hb) fun x H4 E4 S4 => ?_
    clear S3
    obtain ⟨a2, d2⟩ := x
    generalize hX : fromS k e (restS m (fromS k e m R)) D = X at *
    have hXl : X.length ≤ 1000 := by have := fromS_len (k := k) (e := e) (m := restS m (fromS k e m R)) (L := D); rw [hX] at this; omega
    refine ⟨_, _, _, rfl, ?_⟩
    have S5 : Sat H4 (sl rowC 94 2 (some ⟨r1, 0, none⟩) 0 0 [] :: sl rowC 94 2 a2 X.length d2 X :: sl rowC 94 2 a (fromS k e m R).length d (fromS k e m R) :: [old H0]) := by
      refine Sat.to ?_ emptySl
      refine S4.to ?_
      iterate 3 (apply Ent.pick; (focus (repeat (first | exact Sel.here | apply Sel.there))))
      exact Ent.drop .refl
    clear S4
    refine S5.slApp (ys := X) (q := a2) (d := X.length) ?_ rfl (fun _ _ => rfl) cell_row rfl (by decide) (by omega) fun q4 c4 H5 S6 => ?_
    · exact (S5.rowsAt (f := rowC) (E := 94) (z := 2) (n := X.length) (k := d2) (p := a2) (by simp)).cells (fun _ => rfl)
    clear S5
    refine S6.slApp (ys := fromS k e m R) (q := a) (d := (fromS k e m R).length) ?_ rfl (fun _ _ => rfl) cell_row rfl (by decide) (by omega) fun q5 c5 H6 S7 => ?_
    · exact (S6.rowsAt (f := rowC) (E := 94) (z := 2) (n := (fromS k e m R).length) (k := d) (p := a) (by simp)).cells (fun _ => rfl)
    clear S6
    have hl : (readSp k e m D R).length = 0 + X.length + (fromS k e m R).length := by rw [er, List.length_append, Nat.zero_add]
    refine ⟨(q5, c5), by rw [hl], ?_⟩
    rw [hl, er]
    rw [List.nil_append] at S7
    refine S7.to (Ent.cons ?_)
    exact Ent.drop (Ent.drop .refl)
  have l0 : ¬ (m > 0 ∧ ((fromS k e m R).length : Int) = m) → F18.L0 k e m r a (fromS k e m R).length d H2 (fun en H1 => ∃ x : Option Addr × Nat, en = .returned (.slice x.1 (readSp k e m D R).length x.2) ∧ Sat H1 ([sl rowC 94 2 x.1 (readSp k e m D R).length x.2 (readSp k e m D R)] ++ [old H0])) := by
    intro hne
    have h1 := l1 hne
    unfold restS at h1
    refine F18.L0_step ?_
    unfold F18.L0n
    refine iteB_i (fun h => ?_) (fun h => ?_)
    · have h : m > 0 := by simpa using h
      rw [if_pos h] at h1
      rw [wr64 (by omega) (by omega)]
      exact h1
    · have h : ¬ m > 0 := by simpa using h
      rw [if_neg h] at h1
      exact h1
  refine iteB_i (fun h => ?_) (fun h => ?_)
  · have h : m > 0 := by simpa using h
    refine iteB_i (fun h2 => ?_) (fun h2 => ?_)
    · have h2 : ((fromS k e m R).length : Int) = m := by simpa using h2
      have er : readSp k e m D R = fromS k e m R := by unfold readSp; rw [if_pos ⟨h, h2⟩]
      rw [er]
      exact ⟨(a, d), rfl, S2.to (Ent.cons (Ent.drop .refl))⟩
    · have h2 : ((fromS k e m R).length : Int) ≠ m := by simpa using h2
      exact l0 (fun hh => h2 hh.2)
  · have h : ¬ m > 0 := by simpa using h
    exact l0 (fun hh => h hh.1)
end
end Go.Proofs.YtkkookljlencgaaGreat

set_option linter.unusedVariables false
set_option linter.unusedSimpArgs false
set_option linter.unnecessarySimpa false
set_option maxRecDepth 100000
namespace Go.Proofs.YtkkookljlencgaaGreat
open Go Go.Den Go.Proofs
/-! The reference's state. -/
structure Rw where
  q : Option Addr
  c : Nat
  xs : List Txt
abbrev Rw.v (r : Rw) : Value := .slice r.q r.xs.length r.c
abbrev rw0 : Rw := ⟨none, 0, []⟩
structure RwG (g : PH) (r : Rw) : Prop where
  rows : RowsG rowC 2 g r.q r.xs
  cap : r.xs.length ≤ r.c
theorem RwG.mono {g g' : PH} {r : Rw} (h : RwG g r) (hs : PH.sub g g') : RwG g' r := ⟨h.rows.mono hs, h.cap⟩
theorem rw0_G {g : PH} : RwG g rw0 := ⟨fun _ _ => .inl rfl, Nat.le_refl _⟩
abbrev nilS : Value := .slice none 0 0
abbrev bgO (b : Int) (A O D N : Rw) (pend : Nat) : Obj := .cells ⟨[.int .i64 b, A.v, nilS, nilS, nilS, O.v, nilS, nilS, nilS, D.v, N.v, nilS, nilS, nilS, nilS, nilS, nilS, .int .i64 (pend : Int), .bool false, nilS]⟩ 43
section
variable {H H0 : Heap} {l m : List HP} {g : PH}
theorem scommit_ok {s pend : Nat} {b : Int} {A O D N : Rw} (S : Sat H (pt s (bgO b A O D N pend) :: l)) :
    CallsH Tryz.prog 20 ⟨[pv s]⟩ H (fun e H1 => e = .returned (.tuple ⟨[]⟩) ∧ Sat H1 (pt s (bgO b A rw0 A rw0 0) :: l)) := by
  refine F20.calls ?_
  unfold F20.go
  have e1 : IntKind.wrap .i64 ((0 : Int) + 1) = 1 := wr64 (by decide) (by decide)
  have e2 : IntKind.wrap .i64 ((1 : Int) + 1) = 2 := wr64 (by decide) (by decide)
  have e3 : IntKind.wrap .i64 ((2 : Int) + 1) = 3 := wr64 (by decide) (by decide)
  have e4 : IntKind.wrap .i64 ((3 : Int) + 1) = 4 := wr64 (by decide) (by decide)
  refine F20.L0_step ?_
  unfold F20.L0n
  (repeat (first | (refine Step.go ?_; intros) | refine iteB_t (by decide) ?_ | refine iteB_f (by decide) ?_ | (refine Duo.mk (by first | omega | exact rfl | decide) ?_; intros) | (refine Duo.mk (Clo.mk (by kernel_rfl)) ?_; intros)))
  simp only [add_mk, Int.reduceToNat, Nat.reduceMul, Nat.reduceAdd]
  (repeat (first | (refine Step.go ?_; intros) | refine iteB_t (by decide) ?_ | refine iteB_f (by decide) ?_ | (refine Duo.mk (by first | omega | exact rfl | decide) ?_; intros) | (refine Duo.mk (Clo.mk (by kernel_rfl)) ?_; intros)))
  rw [e1]
  rename_i H1 S1 H2 S2 H3 S3
  clear S S1 S2
  refine F20.L0_step ?_
  unfold F20.L0n
  (repeat (first | (refine Step.go ?_; intros) | refine iteB_t (by decide) ?_ | refine iteB_f (by decide) ?_ | (refine Duo.mk (by first | omega | exact rfl | decide) ?_; intros) | (refine Duo.mk (Clo.mk (by kernel_rfl)) ?_; intros)))
  simp only [add_mk, Int.reduceToNat, Nat.reduceMul, Nat.reduceAdd]
  (repeat (first | (refine Step.go ?_; intros) | refine iteB_t (by decide) ?_ | refine iteB_f (by decide) ?_ | (refine Duo.mk (by first | omega | exact rfl | decide) ?_; intros) | (refine Duo.mk (Clo.mk (by kernel_rfl)) ?_; intros)))
  rw [e2]
  rename_i H4 S4 H5 S5 H6 S6
  clear S3 S4 S5
  refine F20.L0_step ?_
  unfold F20.L0n
  (repeat (first | (refine Step.go ?_; intros) | refine iteB_t (by decide) ?_ | refine iteB_f (by decide) ?_ | (refine Duo.mk (by first | omega | exact rfl | decide) ?_; intros) | (refine Duo.mk (Clo.mk (by kernel_rfl)) ?_; intros)))
  simp only [add_mk, Int.reduceToNat, Nat.reduceMul, Nat.reduceAdd]
  (repeat (first | (refine Step.go ?_; intros) | refine iteB_t (by decide) ?_ | refine iteB_f (by decide) ?_ | (refine Duo.mk (by first | omega | exact rfl | decide) ?_; intros) | (refine Duo.mk (Clo.mk (by kernel_rfl)) ?_; intros)))
  rw [e3]
  rename_i H7 S7 H8 S8 H9 S9
  clear S6 S7 S8
  refine F20.L0_step ?_
  unfold F20.L0n
  (repeat (first | (refine Step.go ?_; intros) | refine iteB_t (by decide) ?_ | refine iteB_f (by decide) ?_ | (refine Duo.mk (by first | omega | exact rfl | decide) ?_; intros) | (refine Duo.mk (Clo.mk (by kernel_rfl)) ?_; intros)))
  simp only [add_mk, Int.reduceToNat, Nat.reduceMul, Nat.reduceAdd]
  (repeat (first | (refine Step.go ?_; intros) | refine iteB_t (by decide) ?_ | refine iteB_f (by decide) ?_ | (refine Duo.mk (by first | omega | exact rfl | decide) ?_; intros) | (refine Duo.mk (Clo.mk (by kernel_rfl)) ?_; intros)))
  rw [e4]
  rename_i HA SA HB SB HC SC
  clear S9 SA SB
  refine F20.L0_step ?_
  unfold F20.L0n
  (repeat (first | (refine Step.go ?_; intros) | refine iteB_t (by decide) ?_ | refine iteB_f (by decide) ?_ | (refine Duo.mk (by first | omega | exact rfl | decide) ?_; intros) | (refine Duo.mk (Clo.mk (by kernel_rfl)) ?_; intros)))
  rename_i HD SD HE SE
  exact ⟨rfl, SE⟩
/-- What was written is handed over: row by row. -/
theorem sunlock_ok {s pend : Nat} {b : Int} {A O D : Rw} (hO : RwG g O) (hn : O.xs.length ≤ 900) (hs : SrtT O.xs) (hp : (pend : Int) < b)
    (S : Sat H (pt s (bgO b A O D rw0 pend) :: has g :: l)) :
    CallsH Tryz.prog 19 ⟨[pv s]⟩ H (fun e H1 => e = .returned (.tuple ⟨[]⟩) ∧ ∃ (g' : PH) (N : Rw), PH.sub g g' ∧ RwG g' N ∧ N.xs = O.xs ∧ Sat H1 (pt s (bgO b A rw0 D N pend) :: has g' :: l)) := by
  refine F19.calls ?_
  unfold F19.go
  have e1 : IntKind.wrap .i64 ((0 : Int) + 1) = 1 := wr64 (by decide) (by decide)
  have e2 : IntKind.wrap .i64 ((1 : Int) + 1) = 2 := wr64 (by decide) (by decide)
  have e3 : IntKind.wrap .i64 ((2 : Int) + 1) = 3 := wr64 (by decide) (by decide)
  have e4 : IntKind.wrap .i64 ((3 : Int) + 1) = 4 := wr64 (by decide) (by decide)
  -- the other buckets have nothing
  have rest : ∀ (H1 : Heap) (g' : PH) (N : Rw), PH.sub g g' → RwG g' N → N.xs = O.xs → Sat H1 (pt s (bgO b A rw0 D N pend) :: has g' :: l) → F19.L0 (some ⟨s, 0, none⟩) 1 H1 (fun e H1 => e = .returned (.tuple ⟨[]⟩) ∧ ∃ (g' : PH) (N : Rw), PH.sub g g' ∧ RwG g' N ∧ N.xs = O.xs ∧ Sat H1 (pt s (bgO b A rw0 D N pend) :: has g' :: l)) := by
    intro H1 g' N s1 gN eN S1
    refine F19.L0_step ?_
    unfold F19.L0n
    (repeat (first | (refine Step.go ?_; intros) | refine iteB_t (by decide) ?_ | refine iteB_f (by decide) ?_ | (refine Duo.mk (by first | omega | exact rfl | decide) ?_; intros) | (refine Duo.mk (Clo.mk (by kernel_rfl)) ?_; intros)))
    simp only [add_mk, Int.reduceToNat, Nat.reduceMul, Nat.reduceAdd]
    (repeat (first | (refine Step.go ?_; intros) | refine iteB_t (by decide) ?_ | refine iteB_f (by decide) ?_ | (refine Duo.mk (by first | omega | exact rfl | decide) ?_; intros) | (refine Duo.mk (Clo.mk (by kernel_rfl)) ?_; intros)))
    refine F19.L1_step ?_
    unfold F19.L1n
    (repeat (first | (refine Step.go ?_; intros) | refine iteB_t (by decide) ?_ | refine iteB_f (by decide) ?_ | (refine Duo.mk (by first | omega | exact rfl | decide) ?_; intros) | (refine Duo.mk (Clo.mk (by kernel_rfl)) ?_; intros)))
    simp only [add_mk, Int.reduceToNat, Nat.reduceMul, Nat.reduceAdd]
    (repeat (first | (refine Step.go ?_; intros) | refine iteB_t (by decide) ?_ | refine iteB_f (by decide) ?_ | (refine Duo.mk (by first | omega | exact rfl | decide) ?_; intros) | (refine Duo.mk (Clo.mk (by kernel_rfl)) ?_; intros)))
    rw [e2]
    rename_i H2 S2
    clear S1
    refine F19.L0_step ?_
    unfold F19.L0n
    (repeat (first | (refine Step.go ?_; intros) | refine iteB_t (by decide) ?_ | refine iteB_f (by decide) ?_ | (refine Duo.mk (by first | omega | exact rfl | decide) ?_; intros) | (refine Duo.mk (Clo.mk (by kernel_rfl)) ?_; intros)))
    simp only [add_mk, Int.reduceToNat, Nat.reduceMul, Nat.reduceAdd]
    (repeat (first | (refine Step.go ?_; intros) | refine iteB_t (by decide) ?_ | refine iteB_f (by decide) ?_ | (refine Duo.mk (by first | omega | exact rfl | decide) ?_; intros) | (refine Duo.mk (Clo.mk (by kernel_rfl)) ?_; intros)))
    refine F19.L1_step ?_
    unfold F19.L1n
    (repeat (first | (refine Step.go ?_; intros) | refine iteB_t (by decide) ?_ | refine iteB_f (by decide) ?_ | (refine Duo.mk (by first | omega | exact rfl | decide) ?_; intros) | (refine Duo.mk (Clo.mk (by kernel_rfl)) ?_; intros)))
    simp only [add_mk, Int.reduceToNat, Nat.reduceMul, Nat.reduceAdd]
    (repeat (first | (refine Step.go ?_; intros) | refine iteB_t (by decide) ?_ | refine iteB_f (by decide) ?_ | (refine Duo.mk (by first | omega | exact rfl | decide) ?_; intros) | (refine Duo.mk (Clo.mk (by kernel_rfl)) ?_; intros)))
    rw [e3]
    rename_i H3 S3
    clear S2
    refine F19.L0_step ?_
    unfold F19.L0n
    (repeat (first | (refine Step.go ?_; intros) | refine iteB_t (by decide) ?_ | refine iteB_f (by decide) ?_ | (refine Duo.mk (by first | omega | exact rfl | decide) ?_; intros) | (refine Duo.mk (Clo.mk (by kernel_rfl)) ?_; intros)))
    simp only [add_mk, Int.reduceToNat, Nat.reduceMul, Nat.reduceAdd]
    (repeat (first | (refine Step.go ?_; intros) | refine iteB_t (by decide) ?_ | refine iteB_f (by decide) ?_ | (refine Duo.mk (by first | omega | exact rfl | decide) ?_; intros) | (refine Duo.mk (Clo.mk (by kernel_rfl)) ?_; intros)))
    refine F19.L1_step ?_
    unfold F19.L1n
    (repeat (first | (refine Step.go ?_; intros) | refine iteB_t (by decide) ?_ | refine iteB_f (by decide) ?_ | (refine Duo.mk (by first | omega | exact rfl | decide) ?_; intros) | (refine Duo.mk (Clo.mk (by kernel_rfl)) ?_; intros)))
    simp only [add_mk, Int.reduceToNat, Nat.reduceMul, Nat.reduceAdd]
    (repeat (first | (refine Step.go ?_; intros) | refine iteB_t (by decide) ?_ | refine iteB_f (by decide) ?_ | (refine Duo.mk (by first | omega | exact rfl | decide) ?_; intros) | (refine Duo.mk (Clo.mk (by kernel_rfl)) ?_; intros)))
    rw [e4]
    rename_i H4 S4
    clear S3
    refine F19.L0_step ?_
    unfold F19.L0n
    (repeat (first | (refine Step.go ?_; intros) | refine iteB_t (by decide) ?_ | refine iteB_f (by decide) ?_ | (refine Duo.mk (by first | omega | exact rfl | decide) ?_; intros) | (refine Duo.mk (Clo.mk (by kernel_rfl)) ?_; intros)))
    refine iteB_i (fun h => ?_) (fun h => ?_)
    · (repeat (first | (refine Step.go ?_; intros) | refine iteB_t (by decide) ?_ | refine iteB_f (by decide) ?_ | (refine Duo.mk (by first | omega | exact rfl | decide) ?_; intros) | (refine Duo.mk (Clo.mk (by kernel_rfl)) ?_; intros)))
      refine iteB_f (decide_eq_false (by omega)) ?_
      (repeat (first | (refine Step.go ?_; intros) | refine iteB_t (by decide) ?_ | refine iteB_f (by decide) ?_ | (refine Duo.mk (by first | omega | exact rfl | decide) ?_; intros) | (refine Duo.mk (Clo.mk (by kernel_rfl)) ?_; intros)))
      exact ⟨rfl, g', N, s1, gN, eN, S4⟩
    · exact ⟨rfl, g', N, s1, gN, eN, S4⟩
  have loop : ∀ (j i : Nat) (g1 : PH) (N : Rw) (H1 : Heap), i + j = O.xs.length → PH.sub g g1 → RwG g1 N → N.xs = O.xs.take i → Sat H1 (pt s (bgO b A O D N pend) :: has g1 :: l) →
      F19.L1 (some ⟨s, 0, none⟩) 0 0 O.q O.xs.length O.c (O.xs.length : Int) (i : Int) H1 (fun e H1 => e = .returned (.tuple ⟨[]⟩) ∧ ∃ (g' : PH) (N : Rw), PH.sub g g' ∧ RwG g' N ∧ N.xs = O.xs ∧ Sat H1 (pt s (bgO b A rw0 D N pend) :: has g' :: l)) := by
    intro j
    induction j with
    | zero =>
      intro i g1 N H1 hi s1 gN eN S1
      obtain rfl : i = O.xs.length := by omega
      rw [List.take_length] at eN
      refine F19.L1_step ?_
      unfold F19.L1n
      refine iteB_f (decide_eq_false (by omega)) ?_
      simp only [add_mk, Int.reduceToNat, Nat.reduceMul, Nat.reduceAdd]
      (repeat (first | (refine Step.go ?_; intros) | refine iteB_t (by decide) ?_ | refine iteB_f (by decide) ?_ | (refine Duo.mk (by first | omega | exact rfl | decide) ?_; intros) | (refine Duo.mk (Clo.mk (by kernel_rfl)) ?_; intros)))
      rw [e1]
      rename_i H2 S2
      exact rest H2 g1 N s1 gN eN S2
    | succ j ih =>
      intro i g1 N H1 hi s1 gN eN S1
      obtain ⟨x, hx⟩ : ∃ x, O.xs[i]? = some x := get_of (by omega)
      refine F19.L1_step ?_
      unfold F19.L1n
      refine iteB_t (decide_eq_true (by omega)) ?_
      have hsub := subOf S1 (by simp : has g1 ∈ _)
      rcases hO.rows H1 (s1.trans hsub) with c1 | ⟨a', e1, c1⟩
      · rw [c1] at hx; simp at hx
      rw [e1]
      refine ⟨by omega, by omega, ?_⟩
      have h1 := c1 i x hx 0 (.string x.1) rfl
      have h2 := c1 i x hx 1 (.string x.2) rfl
      refine ⟨_, by rw [Int.toNat_natCast]; exact h1, ?_⟩
      refine ⟨_, by rw [Int.toNat_natCast]; exact h2, ?_⟩
      simp only [add_mk, Int.reduceToNat, Nat.reduceMul, Nat.reduceAdd]
      (repeat (first | (refine Step.go ?_; intros) | refine iteB_t (by decide) ?_ | refine iteB_f (by decide) ?_ | (refine Duo.mk (by first | omega | exact rfl | decide) ?_; intros) | (refine Duo.mk (Clo.mk (by kernel_rfl)) ?_; intros)))
      rename_i r H2 S2 H3 S3 H4 S4
      clear S1 S2 S3
      have hsub4 := subOf S4 (by simp : has g1 ∈ _)
      have hlt : ∀ y ∈ N.xs, ltS y.1 x.1 = true := by
        rw [eN]
        intro y hy
        have hp := hs
        unfold SrtT at hp
        rw [← List.take_append_drop i O.xs] at hp
        refine (List.pairwise_append.1 hp).2.2 y hy x ?_
        have : O.xs.drop i = O.xs[i]'(by omega) :: O.xs.drop (i + 1) := List.drop_eq_getElem_cons (by omega)
        rw [this]
        have : O.xs[i]'(by omega) = x := Option.some.inj ((List.getElem?_eq_getElem (by omega)).symm.trans hx)
        rw [this]
        exact List.mem_cons_self ..
      have hNl : N.xs.length = i := by rw [eN, List.length_take]; omega
      refine grow_i (ι := Option Addr × Nat) (v := fun z => .slice z.1 (N.xs.length + 1) z.2) (m := fun z => [sl rowC 94 2 z.1 (N.xs.length + 1) z.2 (N.xs ++ [(x.1, x.2)])]) S4 (with_ok (gN.rows H4 hsub4) rfl gN.cap (by omega) hlt) fun z H5 E5 S5 => ?_
      clear S4
      obtain ⟨q', c'⟩ := z
      replace S5 : Sat H5 (sl rowC 94 2 q' (N.xs.length + 1) c' (N.xs ++ [(x.1, x.2)]) :: pt r (.cells ⟨[.string x.1, .string x.2]⟩ 94) :: pt s (bgO b A O D N pend) :: has g1 :: l) := S5
      have hcap := (Sat.slLen S5 (List.mem_cons_self ..)).2
      obtain ⟨g2, h3, S6⟩ := has_of S5
      clear S5
      obtain ⟨g', t1, t2, S7⟩ := has_join (S6.to (m := has g2 :: has g1 :: pt s (bgO b A O D N pend) :: l) (by
        iterate 3 (apply Ent.pick; (focus (repeat (first | exact Sel.here | apply Sel.there))))
        exact Ent.drop .refl))
      clear S6
      refine ⟨_, _, _, rfl, ?_⟩
      (repeat (first | (refine Step.go ?_; intros) | refine iteB_t (by decide) ?_ | refine iteB_f (by decide) ?_ | (refine Duo.mk (by first | omega | exact rfl | decide) ?_; intros) | (refine Duo.mk (Clo.mk (by kernel_rfl)) ?_; intros)))
      rename_i H8 S8
      clear S7
      rw [wr64 (by omega) (by omega), show ((i : Nat) : Int) + 1 = ((i + 1 : Nat) : Int) by omega]
      have hl' : (N.xs ++ [(x.1, x.2)]).length = N.xs.length + 1 := by rw [List.length_append]; rfl
      rw [← e1]
      refine ih (i + 1) g' ⟨q', c', N.xs ++ [(x.1, x.2)]⟩ H8 (by omega) (s1.trans t2) ⟨(rows_of h3).mono t1, ?_⟩ ?_ (S8.to ?_)
      · show (N.xs ++ [(x.1, x.2)]).length ≤ c'
        rw [hl']; exact hcap
      · show N.xs ++ [(x.1, x.2)] = _
        rw [eN, List.take_add_one, hx]; rfl
      · show Ent _ (pt s (.cells ⟨[.int .i64 b, A.v, nilS, nilS, nilS, O.v, nilS, nilS, nilS, D.v, .slice q' (N.xs ++ [(x.1, x.2)]).length c', nilS, nilS, nilS, nilS, nilS, nilS, .int .i64 (pend : Int), .bool false, nilS]⟩ 43) :: has g' :: l)
        rw [hl']
        iterate 2 (apply Ent.pick; (focus (repeat (first | exact Sel.here | apply Sel.there))))
        exact .refl
  refine F19.L0_step ?_
  unfold F19.L0n
  (repeat (first | (refine Step.go ?_; intros) | refine iteB_t (by decide) ?_ | refine iteB_f (by decide) ?_ | (refine Duo.mk (by first | omega | exact rfl | decide) ?_; intros) | (refine Duo.mk (Clo.mk (by kernel_rfl)) ?_; intros)))
  simp only [add_mk, Int.reduceToNat, Nat.reduceMul, Nat.reduceAdd]
  (repeat (first | (refine Step.go ?_; intros) | refine iteB_t (by decide) ?_ | refine iteB_f (by decide) ?_ | (refine Duo.mk (by first | omega | exact rfl | decide) ?_; intros) | (refine Duo.mk (Clo.mk (by kernel_rfl)) ?_; intros)))
  exact loop O.xs.length 0 g rw0 H (by omega) PH.sub.refl rw0_G rfl S
end
end Go.Proofs.YtkkookljlencgaaGreat

set_option linter.unusedVariables false
set_option linter.unusedSimpArgs false
set_option linter.unnecessarySimpa false
set_option maxRecDepth 100000
namespace Go.Proofs.YtkkookljlencgaaGreat
open Go Go.Den Go.Proofs
/-! The reference does operations. -/
abbrev opV0 (kd : Int) (key e val : ByteArray) (n : Int) : Value := .agg ⟨[.int .i64 kd, .int .i64 0, .int .i64 0, .string key, .string e, .string val, .int .i64 n]⟩
section
variable {H H0 : Heap} {l m : List HP} {g : PH}
theorem withG {N : Rw} {key val : ByteArray} {Q : List PanicEntry → Heap → Prop} {K : Value → Heap → Prop} (S : Sat H (has g :: l)) (gN : RwG g N) (hl : N.xs.length ≤ 1000) (hlt : ∀ y ∈ N.xs, ltS y.1 key = true)
    (k : ∀ (N' : Rw) (g' : PH) (H1 : Heap), ExtH H H1 → PH.sub g g' → RwG g' N' → N'.xs = N.xs ++ [(key, val)] → Sat H1 (has g' :: l) → K N'.v H1) : callD Tryz.prog 14 [N.v, .string key, .string val] H Q K := by
  refine grow_i (ι := Option Addr × Nat) (v := fun z => .slice z.1 (N.xs.length + 1) z.2) (m := fun z => [sl rowC 94 2 z.1 (N.xs.length + 1) z.2 (N.xs ++ [(key, val)])]) S (with_ok (gN.rows H (subOf S (by simp))) rfl gN.cap hl hlt) fun z H5 E5 S5 => ?_
  obtain ⟨q', c'⟩ := z
  replace S5 : Sat H5 (sl rowC 94 2 q' (N.xs.length + 1) c' (N.xs ++ [(key, val)]) :: has g :: l) := S5
  have hcap := (Sat.slLen S5 (List.mem_cons_self ..)).2
  obtain ⟨g2, h3, S6⟩ := has_of S5
  obtain ⟨g', t1, t2, S7⟩ := has_join S6
  have hl' : (N.xs ++ [(key, val)]).length = N.xs.length + 1 := by rw [List.length_append]; rfl
  have := k ⟨q', c', N.xs ++ [(key, val)]⟩ g' H5 E5 t2 ⟨(rows_of h3).mono t1, by show (N.xs ++ [(key, val)]).length ≤ c'; rw [hl']; exact hcap⟩ rfl S7
  rw [← hl']
  exact this
/-- A row is put. -/
theorem sdo_put {s pend : Nat} {b n : Int} {A O D N : Rw} {key val e : ByteArray} (gA : RwG g A) (gO : RwG g O) (hA : A.xs.length ≤ 900) (hO : O.xs.length ≤ 900) (h1 : ∀ y ∈ A.xs, ltS y.1 key = true) (h2 : ∀ y ∈ O.xs, ltS y.1 key = true) (hp : pend ≤ 100000)
    (S : Sat H (pt s (bgO b A O D N pend) :: has g :: l)) :
    CallsH Tryz.prog 8 ⟨[pv s, opV0 2 key e val n]⟩ H (fun en H1 => en = .returned ansV0 ∧ ∃ (g' : PH) (A' O' : Rw), PH.sub g g' ∧ RwG g' A' ∧ RwG g' O' ∧ A'.xs = A.xs ++ [(key, val)] ∧ O'.xs = O.xs ++ [(key, val)] ∧ Sat H1 (pt s (bgO b A' O' D N (pend + 1)) :: has g' :: l)) := by
  refine F8.calls ?_
  unfold F8.go
  (repeat (first | (refine Step.go ?_; intros) | refine iteB_t (by decide) ?_ | refine iteB_f (by decide) ?_ | (refine Duo.mk (by first | omega | exact rfl | decide) ?_; intros) | (refine Duo.mk (Clo.mk (by kernel_rfl)) ?_; intros)))
  rename_i r H1 S1 r1 H2 S2
  clear S S1
  refine F8.L2_step ?_
  unfold F8.L2n
  simp only [add_mk, Int.reduceToNat, Nat.reduceMul, Nat.reduceAdd]
  (repeat (first | (refine Step.go ?_; intros) | refine iteB_t (by decide) ?_ | refine iteB_f (by decide) ?_ | (refine Duo.mk (by first | omega | exact rfl | decide) ?_; intros) | (refine Duo.mk (Clo.mk (by kernel_rfl)) ?_; intros)))
  refine withG (l := pt s (bgO b A O D N pend) :: pt r1 ansO :: pt r (.cells ⟨[.int .i64 2, .int .i64 0, .int .i64 0, .string key, .string e, .string val, .int .i64 n]⟩ 29) :: l) (S2.to (by
    iterate 4 (apply Ent.pick; (focus (repeat (first | exact Sel.here | apply Sel.there))))
    exact .refl)) gA (by omega) h1 fun A' g1 H3 E3 s1 gA' eA S3 => ?_
  clear S2
  refine ⟨_, _, _, rfl, E3, ?_⟩
  refine withG (N := O) S3 (gO.mono s1) (by omega) h2 fun O' g2 H4 E4 s2 gO' eO S4 => ?_
  clear S3
  refine ⟨_, _, _, rfl, ?_⟩
  simp only [add_mk, Int.reduceToNat, Nat.reduceMul, Nat.reduceAdd]
  (repeat (first | (refine Step.go ?_; intros) | refine iteB_t (by decide) ?_ | refine iteB_f (by decide) ?_ | (refine Duo.mk (by first | omega | exact rfl | decide) ?_; intros) | (refine Duo.mk (Clo.mk (by kernel_rfl)) ?_; intros)))
  have SD := ‹Sat _ (_ :: _)›
  rw [wr64 (by omega) (by omega), show ((pend : Nat) : Int) + 1 = ((pend + 1 : Nat) : Int) by omega] at SD
  refine ⟨rfl, g2, A', O', s1.trans s2, gA'.mono s2, gO', eA, eO, SD.to ?_⟩
  iterate 2 (apply Ent.pick; (focus (repeat (first | exact Sel.here | apply Sel.there))))
  exact Ent.drop (Ent.drop .refl)
end
end Go.Proofs.YtkkookljlencgaaGreat

set_option linter.unusedVariables false
set_option linter.unusedSimpArgs false
set_option linter.unnecessarySimpa false
set_option maxRecDepth 100000
namespace Go.Proofs.YtkkookljlencgaaGreat
open Go Go.Den Go.Proofs
section
variable {H H0 : Heap} {l m : List HP} {g : PH}
theorem sdo_commit {s pend : Nat} {b n : Int} {A O D : Rw} {key val e : ByteArray} (hO : RwG g O) (hn : O.xs.length ≤ 900) (hs : SrtT O.xs) (hp : (pend : Int) < b)
    (S : Sat H (pt s (bgO b A O D rw0 pend) :: has g :: l)) :
    CallsH Tryz.prog 8 ⟨[pv s, opV0 9 key e val n]⟩ H (fun en H1 => en = .returned ansV0 ∧ ∃ g' : PH, PH.sub g g' ∧ Sat H1 (pt s (bgO b A rw0 A rw0 0) :: has g' :: l)) := by
  refine F8.calls ?_
  unfold F8.go
  (repeat (first | (refine Step.go ?_; intros) | refine iteB_t (by decide) ?_ | refine iteB_f (by decide) ?_ | (refine Duo.mk (by first | omega | exact rfl | decide) ?_; intros) | (refine Duo.mk (Clo.mk (by kernel_rfl)) ?_; intros)))
  rename_i r H1 S1 r1 H2 S2
  clear S S1
  refine F8.L0_step ?_
  unfold F8.L0n
  iterate 5 (refine iteB_f rfl ?_)
  refine iteB_f rfl ?_
  refine iteB_t rfl ?_
  refine call_of (sunlock_ok hO hn hs hp (S2.to (m := pt s (bgO b A O D rw0 pend) :: has g :: pt r1 ansO :: l) (by
    iterate 3 (apply Ent.pick; (focus (repeat (first | exact Sel.here | apply Sel.there))))
    exact Ent.drop .refl))) ?_
  rintro en H3 ⟨rfl, g', N, s1, gN, eN, S3⟩
  clear S2
  refine ⟨_, rfl, rfl, ?_⟩
  refine call_of (scommit_ok S3) ?_
  rintro en H4 ⟨rfl, S4⟩
  clear S3
  refine ⟨_, rfl, rfl, ?_⟩
  (repeat (first | (refine Step.go ?_; intros) | refine iteB_t (by decide) ?_ | refine iteB_f (by decide) ?_ | (refine Duo.mk (by first | omega | exact rfl | decide) ?_; intros) | (refine Duo.mk (Clo.mk (by kernel_rfl)) ?_; intros)))
  have SD := ‹Sat _ (_ :: _)›
  refine ⟨rfl, g', s1, SD.to ?_⟩
  iterate 2 (apply Ent.pick; (focus (repeat (first | exact Sel.here | apply Sel.there))))
  exact Ent.drop .refl
theorem sdo_unlock {s pend : Nat} {b n : Int} {A O D : Rw} {key val e : ByteArray} (hO : RwG g O) (hn : O.xs.length ≤ 900) (hs : SrtT O.xs) (hp : (pend : Int) < b)
    (S : Sat H (pt s (bgO b A O D rw0 pend) :: has g :: l)) :
    CallsH Tryz.prog 8 ⟨[pv s, opV0 8 key e val n]⟩ H (fun en H1 => en = .returned ansV0 ∧ ∃ (g' : PH) (N : Rw), PH.sub g g' ∧ RwG g' N ∧ N.xs = O.xs ∧ Sat H1 (pt s (bgO b A rw0 D N pend) :: has g' :: l)) := by
  refine F8.calls ?_
  unfold F8.go
  (repeat (first | (refine Step.go ?_; intros) | refine iteB_t (by decide) ?_ | refine iteB_f (by decide) ?_ | (refine Duo.mk (by first | omega | exact rfl | decide) ?_; intros) | (refine Duo.mk (Clo.mk (by kernel_rfl)) ?_; intros)))
  rename_i r H1 S1 r1 H2 S2
  clear S S1
  refine F8.L0_step ?_
  unfold F8.L0n
  iterate 5 (refine iteB_f rfl ?_)
  refine iteB_t rfl ?_
  refine call_of (sunlock_ok hO hn hs hp (S2.to (m := pt s (bgO b A O D rw0 pend) :: has g :: pt r1 ansO :: l) (by
    iterate 3 (apply Ent.pick; (focus (repeat (first | exact Sel.here | apply Sel.there))))
    exact Ent.drop .refl))) ?_
  rintro en H3 ⟨rfl, g', N, s1, gN, eN, S3⟩
  clear S2
  refine ⟨_, rfl, rfl, ?_⟩
  (repeat (first | (refine Step.go ?_; intros) | refine iteB_t (by decide) ?_ | refine iteB_f (by decide) ?_ | (refine Duo.mk (by first | omega | exact rfl | decide) ?_; intros) | (refine Duo.mk (Clo.mk (by kernel_rfl)) ?_; intros)))
  have SD := ‹Sat _ (_ :: _)›
  refine ⟨rfl, g', N, s1, gN, eN, SD.to ?_⟩
  iterate 2 (apply Ent.pick; (focus (repeat (first | exact Sel.here | apply Sel.there))))
  exact Ent.drop .refl
/-- A range is read. -/
theorem sdo_read {s pend : Nat} {b n : Int} {A O D N : Rw} {key val e : ByteArray} (he : e.size ≠ 0) (gD : RwG g D) (gN : RwG g N) (hD : D.xs.length ≤ 400) (hN : N.xs.length ≤ 400) (hm : -9223372036854775808 ≤ n ∧ n < 9223372036854775808)
    (S : Sat H (pt s (bgO b A O D N pend) :: has g :: l)) :
    CallsH Tryz.prog 8 ⟨[pv s, opV0 5 key e val n]⟩ H (fun en H1 => ∃ x : (Option Addr × Nat) × (Option Addr × Nat), en = .returned (.agg ⟨(anR (readSp key e n D.xs N.xs) x.1.1 x.1.2 x.2.1 x.2.2).cells⟩) ∧ Sat H1 (sl strC 9 1 x.1.1 (readSp key e n D.xs N.xs).length x.1.2 ((readSp key e n D.xs N.xs).map (·.1)) :: sl strC 9 1 x.2.1 (readSp key e n D.xs N.xs).length x.2.2 ((readSp key e n D.xs N.xs).map (·.2)) :: l)) := by
  refine F8.calls ?_
  unfold F8.go
  (repeat (first | (refine Step.go ?_; intros) | refine iteB_t (by decide) ?_ | refine iteB_f (by decide) ?_ | (refine Duo.mk (by first | omega | exact rfl | decide) ?_; intros) | (refine Duo.mk (Clo.mk (by kernel_rfl)) ?_; intros)))
  rename_i r H1 S1 r1 H2 S2
  clear S S1
  refine F8.L0_step ?_
  unfold F8.L0n
  iterate 2 (refine iteB_f rfl ?_)
  refine iteB_t rfl ?_
  simp only [add_mk, Int.reduceToNat, Nat.reduceMul, Nat.reduceAdd]
  (repeat (first | (refine Step.go ?_; intros) | refine iteB_t (by decide) ?_ | refine iteB_f (by decide) ?_ | (refine Duo.mk (by first | omega | exact rfl | decide) ?_; intros) | (refine Duo.mk (Clo.mk (by kernel_rfl)) ?_; intros)))
  have hsub := subOf S2 (by simp : has g ∈ _)
  generalize hT : readSp key e n D.xs N.xs = T
  have hTl : T.length ≤ 1000 := by
    rw [← hT]
    unfold readSp
    have h2 := fromS_len (k := key) (e := e) (m := n) (L := N.xs)
    split
    · omega
    · rw [List.length_append]
      have h3 := fromS_len (k := key) (e := e) (m := restS n (fromS key e n N.xs)) (L := D.xs)
      omega
  refine grow_i (ι := Option Addr × Nat) (v := fun z => .slice z.1 T.length z.2) (m := fun z => [sl rowC 94 2 z.1 T.length z.2 T]) S2 (hT ▸ readSp_ok (k := key) (e := e) (m := n) he (gD.rows H2 hsub) (gN.rows H2 hsub) rfl (by omega) rfl (by omega) hm) fun z H3 E3 S3 => ?_
  clear S2
  obtain ⟨q, c⟩ := z
  replace S3 : Sat H3 (sl rowC 94 2 q T.length c T :: pt r1 ansO :: pt r (.cells ⟨[.int .i64 5, .int .i64 0, .int .i64 0, .string key, .string e, .string val, .int .i64 n]⟩ 29) :: pt s (bgO b A O D N pend) :: has g :: l) := S3
  refine ⟨_, _, _, rfl, ?_⟩
  refine grow_i (ι := (Option Addr × Nat) × (Option Addr × Nat)) (v := fun x => .agg ⟨[.int .i64 0, .int .i64 (T.length : Int), .slice x.1.1 T.length x.1.2, .slice x.2.1 T.length x.2.2]⟩) (m := fun x => [sl strC 9 1 x.1.1 T.length x.1.2 (T.map (·.1)), sl strC 9 1 x.2.1 T.length x.2.2 (T.map (·.2))]) S3 (told_ok (q := q) (n := T.length) (c := c) (xs := T) (S3.rowsAt (f := rowC) (E := 94) (z := 2) (n := T.length) (k := c) (p := q) (by simp)) rfl hTl) fun x H4 E4 S4 => ?_
  clear S3
  obtain ⟨⟨q1, c1⟩, ⟨q2, c2⟩⟩ := x
  replace S4 : Sat H4 (sl strC 9 1 q1 T.length c1 (T.map (·.1)) :: sl strC 9 1 q2 T.length c2 (T.map (·.2)) :: sl rowC 94 2 q T.length c T :: pt r1 ansO :: pt r (.cells ⟨[.int .i64 5, .int .i64 0, .int .i64 0, .string key, .string e, .string val, .int .i64 n]⟩ 29) :: pt s (bgO b A O D N pend) :: has g :: l) := S4
  refine ⟨_, rfl, _, _, rfl, _, rfl, _, _, rfl, _, rfl, _, _, rfl, _, _, _, rfl, _, _, rfl, _, _, _, rfl, rfl, ?_⟩
  (repeat (first | (refine Step.go ?_; intros) | refine iteB_t (by decide) ?_ | refine iteB_f (by decide) ?_ | (refine Duo.mk (by first | omega | exact rfl | decide) ?_; intros) | (refine Duo.mk (Clo.mk (by kernel_rfl)) ?_; intros)))
  have SD := ‹Sat _ (_ :: _)›
  refine ⟨((q1, c1), (q2, c2)), rfl, SD.to ?_⟩
  refine Ent.cons (Ent.cons ?_)
  iterate 5 (refine Ent.drop ?_)
  exact .refl
end
end Go.Proofs.YtkkookljlencgaaGreat
