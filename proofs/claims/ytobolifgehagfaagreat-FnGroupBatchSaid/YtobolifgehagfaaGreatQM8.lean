/- What functions of this seat do, each proved by a walk; no condition. -/
import Derived.Test.YtobolifgehagfaaGreatQM4
import Derived.Test.YtobolifgehagfaaGreatQM5
import Derived.Test.YtobolifgehagfaaGreatQD2
set_option linter.unusedVariables false
set_option linter.unusedSimpArgs false
set_option linter.unnecessarySimpa false
namespace Go.Proofs.YtobolifgehagfaaGreat
open Go Go.Den Go.Proofs
structure BE where
  evs : List EV
  revs : Int
  more : Int
def lastE (l : List EV) : Int := match l.getLast? with | some x => x.m | none => 0
def BE.add (b : BE) (x : EV) : BE :=
  if b.revs > 1000 then b
  else if b.evs.length = 0 then ⟨b.evs ++ [x], 1, b.more⟩
  else if x.m > lastE b.evs then (if b.revs + 1 > 1000 then ⟨b.evs, b.revs + 1, x.m⟩ else ⟨b.evs ++ [x], b.revs + 1, b.more⟩)
  else ⟨b.evs ++ [x], b.revs, b.more⟩
def runE (xs : List EV) : BE := xs.foldl BE.add ⟨[], 0, 0⟩
def BT.e (b : BT) : BE := ⟨b.evs.map (·.2), b.revs, b.more⟩
theorem last_e (l : List PE) : lastE (l.map (·.2)) = lastM l := by
  unfold lastE lastM
  rw [List.getLast?_map]
  cases l.getLast? <;> rfl
theorem add_e (b : BT) (x : PE) : (b.add x).e = b.e.add x.2 := by
  unfold BT.add BE.add BT.e
  dsimp only
  rw [last_e, List.length_map]
  repeat' split
  all_goals first | rfl | simp
theorem fold_e : ∀ (ps : List PE) (b : BT), (ps.foldl BT.add b).e = (ps.map (·.2)).foldl BE.add b.e
  | [], b => rfl
  | x :: ps, b => by
    rw [List.foldl_cons, fold_e ps, add_e]
    rfl
theorem run_e (ps : List PE) : (runB ps).e = runE (ps.map (·.2)) := fold_e ps _
theorem runB_snoc (ps : List PE) (x : PE) : runB (ps ++ [x]) = (runB ps).add x := by
  unfold runB
  rw [List.foldl_append]
  rfl
theorem runB_mem {ps : List PE} {p : PE} (h : p ∈ (runB ps).evs) : p ∈ ps := by
  have key : ∀ (l : List PE) (b : BT), p ∈ (l.foldl BT.add b).evs → p ∈ l ∨ p ∈ b.evs := by
    intro l
    induction l with
    | nil => intro b h; exact .inr h
    | cons x l ih =>
      intro b h
      rcases ih (b.add x) h with h | h
      · exact .inl (List.mem_cons_of_mem _ h)
      · rcases add_mem h with rfl | h
        · exact .inl (List.mem_cons_self ..)
        · exact .inr h
  rcases key ps ⟨[], 0, 0⟩ h with h | h
  · exact h
  · cases h
theorem runB_len (ps : List PE) : (runB ps).evs.length ≤ ps.length := by
  have key : ∀ (l : List PE) (b : BT), (l.foldl BT.add b).evs.length ≤ b.evs.length + l.length := by
    intro l
    induction l with
    | nil => intro b; simp
    | cons x l ih =>
      intro b
      have h1 := ih (b.add x)
      have h2 := add_len (b := b) (x := x)
      simp only [List.foldl_cons, List.length_cons]
      omega
  have h := key ps ⟨[], 0, 0⟩
  have e : (⟨[], 0, 0⟩ : BT).evs.length = 0 := rfl
  rw [e, Nat.zero_add] at h
  exact h
theorem runB_revs (ps : List PE) : 0 ≤ (runB ps).revs ∧ (runB ps).revs ≤ 1001 := by
  have key : ∀ (l : List PE) (b : BT), (0 ≤ b.revs ∧ b.revs ≤ 1001) → 0 ≤ (l.foldl BT.add b).revs ∧ (l.foldl BT.add b).revs ≤ 1001 := by
    intro l
    induction l with
    | nil => intro b h; exact h
    | cons x l ih => intro b h; exact ih _ (add_revs h)
  exact key ps ⟨[], 0, 0⟩ ⟨by decide, by decide⟩
def forW (x : Wa) (evs : List EV) : List EV := evs.filter fun v => seesW x v.key && decide (x.m ≤ v.m)
theorem forW_snoc (x : Wa) (evs : List EV) (v : EV) : forW x (evs ++ [v]) = forW x evs ++ (if seesW x v.key && decide (x.m ≤ v.m) then [v] else []) := by
  unfold forW
  rw [List.filter_append]
  congr 1
  cases h : seesW x v.key && decide (x.m ≤ v.m) <;> simp [h]
def bt1 (eb : Nat) (ps : List PE) : HP := ex fun x : Option Addr × Nat => star [pt eb (btO (runB ps) x.1 x.2), sl peC 77 1 x.1 (runB ps).evs.length x.2 (runB ps).evs]
def bats (f : Nat → List PE) : List (Nat × Nat) → HP
  | [] => star []
  | x :: Z => star [bt1 x.2 (f x.1), bats f Z]
def moreE (f : Nat → List PE) (r : Nat) (x : PE) : Nat → List PE := fun r' => if r' = r then f r' ++ [x] else f r'
theorem moreE_at {f : Nat → List PE} {r : Nat} {x : PE} : moreE f r x r = f r ++ [x] := if_pos rfl
theorem moreE_not {f : Nat → List PE} {r r' : Nat} {x : PE} (h : r' ≠ r) : moreE f r x r' = f r' := if_neg h
section
variable {f f' : Nat → List PE} {l : List HP}
theorem bats_nil : Ent l (bats f [] :: l) := Ent.star .refl
theorem bats_cons {k o : Nat} {Z : List (Nat × Nat)} : Ent (bt1 o (f k) :: bats f Z :: l) (bats f ((k, o) :: Z) :: l) := Ent.star .refl
theorem bats_uncons {k o : Nat} {Z : List (Nat × Nat)} : Ent (bats f ((k, o) :: Z) :: l) (bt1 o (f k) :: bats f Z :: l) := Ent.starL .refl
theorem bats_out {k o : Nat} {B : List (Nat × Nat)} : ∀ {A : List (Nat × Nat)}, Ent (bats f (A ++ (k, o) :: B) :: l) (bt1 o (f k) :: bats f (A ++ B) :: l)
  | [] => bats_uncons
  | (k', o') :: A => by
    refine Ent.trans (bats_uncons (Z := A ++ (k, o) :: B)) ?_
    refine Ent.trans (Ent.cons (bats_out (A := A))) ?_
    refine Ent.trans ?_ (Ent.cons (bats_cons (k := k') (o := o') (Z := A ++ B)))
    iterate 3 (apply Ent.pick; (focus (repeat (first | exact Sel.here | apply Sel.there))))
    exact Ent.refl
theorem bats_in {k o : Nat} {B : List (Nat × Nat)} : ∀ {A : List (Nat × Nat)}, Ent (bt1 o (f k) :: bats f (A ++ B) :: l) (bats f (A ++ (k, o) :: B) :: l)
  | [] => bats_cons
  | (k', o') :: A => by
    refine Ent.trans ?_ (bats_cons (Z := A ++ (k, o) :: B))
    refine Ent.trans (Ent.cons (bats_uncons (k := k') (o := o') (Z := A ++ B))) ?_
    refine Ent.trans ?_ (Ent.cons (bats_in (A := A)))
    iterate 3 (apply Ent.pick; (focus (repeat (first | exact Sel.here | apply Sel.there))))
    exact Ent.refl
theorem bats_snoc {k o : Nat} {Z : List (Nat × Nat)} : Ent (bt1 o (f k) :: bats f Z :: l) (bats f (Z ++ [(k, o)]) :: l) := by
  have := bats_in (f := f) (l := l) (k := k) (o := o) (A := Z) (B := [])
  rwa [List.append_nil] at this
theorem bats_congr : ∀ {Z : List (Nat × Nat)}, (∀ x ∈ Z, f x.1 = f' x.1) → bats f Z = bats f' Z
  | [], _ => rfl
  | x :: Z, h => by
    unfold bats
    rw [h x (List.mem_cons_self ..), bats_congr fun y hy => h y (List.mem_cons_of_mem _ hy)]
end
end Go.Proofs.YtobolifgehagfaaGreat

set_option linter.unusedVariables false
set_option linter.unusedSimpArgs false
set_option linter.unnecessarySimpa false
namespace Go.Proofs.YtobolifgehagfaaGreat
open Go Go.Den Go.Proofs
theorem PM2 : PtrMap Tryz.prog 134 117 78 123 Tryz.t123 (.pointer none) := ⟨by kernel_rfl, uw, iw, by decide, by kernel_rfl⟩
section
variable {H H0 : Heap} {l : List HP} {f : Nat → List PE} {Z : List (Nat × Nat)} {g : PH}
theorem bt1_open {eb : Nat} {ps : List PE} (S : Sat H (bt1 eb ps :: l)) : ∃ q c, Sat H (pt eb (btO (runB ps) q c) :: sl peC 77 1 q (runB ps).evs.length c (runB ps).evs :: l) := by
  obtain ⟨⟨q, c⟩, S1⟩ := S.ex
  exact ⟨q, c, S1.star⟩
theorem bt1_close {eb c : Nat} {q : Option Addr} {ps : List PE} : Ent (pt eb (btO (runB ps) q c) :: sl peC 77 1 q (runB ps).evs.length c (runB ps).evs :: l) (bt1 eb ps :: l) := Ent.ex (q, c) (Ent.star Ent.refl)
theorem eadd_ok {eb : Nat} {ps : List PE} {x : PE} (hx : EvG g x.1 x.2) (hall : ∀ p ∈ ps, EvG g p.1 p.2) (hl : ps.length ≤ 1000000) (S : Sat H (bt1 eb ps :: has g :: l)) :
    CallsH Tryz.prog 33 ⟨[pA eb, pA x.1]⟩ H (fun e H1 => e = .returned (.tuple ⟨[]⟩) ∧ Sat H1 (bt1 eb (ps ++ [x]) :: has g :: l)) := by
  obtain ⟨q, c, S1⟩ := bt1_open S
  have h1 := runB_len ps
  have h2 := runB_revs ps
  refine (add_ok (x := x) hx (by omega) (by omega) (fun p hp => hall p (runB_mem hp)) S1).mono ?_
  rintro _ H1 ⟨rfl, q2, c2, S2⟩
  rw [← runB_snoc] at S2
  exact ⟨rfl, S2.to bt1_close⟩
theorem wbAdd_ok {wb r : Nat} {x : PE} (hr : plainG g r) (hZ : ∀ y ∈ Z, plainG g y.1) (hnd : (Z.map (·.1)).Nodup) (h0 : r ∉ Z.map (·.1) → f r = []) (hx : EvG g x.1 x.2) (hall : ∀ p ∈ f r, EvG g p.1 p.2) (hlen : (f r).length ≤ 1000000)
    (S : Sat H (mp ptrK ptrK wb Z :: bats f Z :: has g :: l)) :
    CallsH Tryz.prog 81 ⟨[.map (some wb), pA r, pA x.1]⟩ H (fun e H1 => e = .returned (.tuple ⟨[]⟩) ∧ ∃ Z', (Z'.map (·.1)).Nodup ∧ (∀ k, k ∈ Z'.map (·.1) ↔ k = r ∨ k ∈ Z.map (·.1)) ∧ Sat H1 (mp ptrK ptrK wb Z' :: bats (moreE f r x) Z' :: has g :: l)) := by
  have hs : PH.sub g (PH.of H) := HasG.sub (l := mp ptrK ptrK wb Z :: bats f Z :: has g :: l) inferInstance S
  refine F81.calls ?_
  unfold F81.go
  refine Sat.lookupK (r := r) PM2 S (List.mem_cons_self ..) (hr.at_ hs) (fun y hy => (hZ y hy).at_ hs) (fun o ho => ?_) (fun ho => ?_)
  · obtain ⟨A, B, rfl⟩ := wget_some ho
    show tPtr (pA o) _
    (repeat (first | (refine Step.go ?_; intros) | refine iteB_t (by decide) ?_ | refine iteB_f (by decide) ?_ | (refine Duo.mk (by first | omega | exact rfl | decide) ?_; intros)))
    have S1 : Sat H (bats f (A ++ (r, o) :: B) :: has g :: mp ptrK ptrK wb (A ++ (r, o) :: B) :: l) := by
      refine S.to ?_
      iterate 3 (apply Ent.pick; (focus (repeat (first | exact Sel.here | apply Sel.there))))
      exact Ent.refl
    clear S
    have S2 : Sat H (bt1 o (f r) :: has g :: bats f (A ++ B) :: mp ptrK ptrK wb (A ++ (r, o) :: B) :: l) := by
      refine (S1.to bats_out).to ?_
      iterate 4 (apply Ent.pick; (focus (repeat (first | exact Sel.here | apply Sel.there))))
      exact Ent.refl
    clear S1
    refine callD_i (eadd_ok hx hall hlen S2) ?_
    rintro _ H3 ⟨rfl, S3⟩
    clear S2
    (repeat (first | (refine Step.go ?_; intros) | refine iteB_t (by decide) ?_ | refine iteB_f (by decide) ?_ | (refine Duo.mk (by first | omega | exact rfl | decide) ?_; intros)))
    refine ⟨rfl, A ++ (r, o) :: B, hnd, fun k => ?_, ?_⟩
    · constructor
      · exact .inr
      · rintro (rfl | h)
        · simp
        · exact h
    · have e1 : bats f (A ++ B) = bats (moreE f r x) (A ++ B) := bats_congr fun y hy => (moreE_not (mid_nodup hnd y hy)).symm
      rw [e1, ← moreE_at (f := f) (r := r) (x := x)] at S3
      have S4 : Sat H3 (bt1 o (moreE f r x r) :: bats (moreE f r x) (A ++ B) :: mp ptrK ptrK wb (A ++ (r, o) :: B) :: has g :: l) := by
        refine S3.to ?_
        iterate 4 (apply Ent.pick; (focus (repeat (first | exact Sel.here | apply Sel.there))))
        exact Ent.refl
      refine (S4.to bats_in).to ?_
      iterate 3 (apply Ent.pick; (focus (repeat (first | exact Sel.here | apply Sel.there))))
      exact Ent.refl
  · have hk := wget_none.1 ho
    have hf0 := h0 hk
    show tPtr (.pointer none) _
    (repeat (first | (refine Step.go ?_; intros) | refine iteB_t (by decide) ?_ | refine iteB_f (by decide) ?_ | (refine Duo.mk (by first | omega | exact rfl | decide) ?_; intros)))
    rename_i o H2 S2
    have S3 : Sat H2 (mp ptrK ptrK wb Z :: pt o (.cells ⟨[.slice none 0 0, .int .i64 0, .int .i64 0]⟩ 80) :: bats f Z :: has g :: l) := by
      refine S2.to ?_
      iterate 4 (apply Ent.pick; (focus (repeat (first | exact Sel.here | apply Sel.there))))
      exact Ent.refl
    have hs2 : PH.sub g (PH.of H2) := HasG.sub (l := mp ptrK ptrK wb Z :: pt o (.cells ⟨[.slice none 0 0, .int .i64 0, .int .i64 0]⟩ 80) :: bats f Z :: has g :: l) inferInstance S3
    clear S S2
    refine S3.mpSetK PM2 (hr.at_ hs2) (fun y hy => (hZ y hy).at_ hs2) ho o fun H3 S4 => ?_
    clear S3
    have S5 : Sat H3 (bt1 o [] :: has g :: bats f Z :: mp ptrK ptrK wb (Z ++ [(r, o)]) :: l) := by
      have S6 : Sat H3 (pt o (btO (runB []) none 0) :: sl peC 77 1 none (runB []).evs.length 0 (runB []).evs :: has g :: bats f Z :: mp ptrK ptrK wb (Z ++ [(r, o)]) :: l) := by
        refine S4.to ?_
        apply Ent.pick
        · focus (repeat (first | exact Sel.here | apply Sel.there))
        refine Ent.slNil ?_
        iterate 3 (apply Ent.pick; (focus (repeat (first | exact Sel.here | apply Sel.there))))
        exact Ent.refl
      exact S6.to bt1_close
    clear S4
    refine callD_i (eadd_ok hx (fun p hp => by cases hp) (by simp) S5) ?_
    rintro _ H4 ⟨rfl, S6⟩
    clear S5
    (repeat (first | (refine Step.go ?_; intros) | refine iteB_t (by decide) ?_ | refine iteB_f (by decide) ?_ | (refine Duo.mk (by first | omega | exact rfl | decide) ?_; intros)))
    refine ⟨rfl, Z ++ [(r, o)], ?_, fun k => ?_, ?_⟩
    · rw [List.map_append, List.nodup_append]
      refine ⟨hnd, by simp, ?_⟩
      intro a ha b hb e
      simp only [List.map_cons, List.map_nil, List.mem_singleton] at hb
      rw [hb] at e; rw [e] at ha
      exact hk ha
    · simp only [List.map_append, List.map_cons, List.map_nil, List.mem_append, List.mem_singleton]
      exact Or.comm
    · have e1 : bats f Z = bats (moreE f r x) Z := bats_congr fun y hy => (moreE_not (fun e => hk (List.mem_map.2 ⟨y, hy, e⟩))).symm
      have e2 : moreE f r x r = [] ++ [x] := by rw [moreE_at, hf0]
      rw [e1, ← e2] at S6
      have S7 : Sat H4 (bt1 o (moreE f r x r) :: bats (moreE f r x) Z :: mp ptrK ptrK wb (Z ++ [(r, o)]) :: has g :: l) := by
        refine S6.to ?_
        iterate 4 (apply Ent.pick; (focus (repeat (first | exact Sel.here | apply Sel.there))))
        exact Ent.refl
      refine (S7.to bats_snoc).to ?_
      iterate 3 (apply Ent.pick; (focus (repeat (first | exact Sel.here | apply Sel.there))))
      exact Ent.refl
end
end Go.Proofs.YtobolifgehagfaaGreat

set_option linter.unusedVariables false
set_option linter.unusedSimpArgs false
set_option linter.unnecessarySimpa false
namespace Go.Proofs.YtobolifgehagfaaGreat
open Go Go.Den Go.Proofs
structure BatI (g : PH) (ws : WL) (Z : List (Nat × Nat)) (f : Nat → List PE) (told : Wa × Nat → List EV) : Prop where
  nd : (Z.map (·.1)).Nodup
  inw : ∀ r ∈ Z.map (·.1), r ∈ ws.map (·.2)
  key : ∀ r, r ∈ Z.map (·.1) ↔ f r ≠ []
  ev : ∀ r, ∀ p ∈ f r, EvG g p.1 p.2
  val : ∀ p ∈ ws, (f p.2).map (·.2) = told p
theorem BatI.mono {g g' : PH} {ws : WL} {Z : List (Nat × Nat)} {f : Nat → List PE} {told : Wa × Nat → List EV} (h : BatI g ws Z f told) (hs : PH.sub g g') : BatI g' ws Z f told :=
  ⟨h.nd, h.inw, h.key, fun r p hp => (h.ev r p hp).mono hs, h.val⟩
theorem BatI.told_congr {g : PH} {ws : WL} {Z : List (Nat × Nat)} {f : Nat → List PE} {told told' : Wa × Nat → List EV} (h : BatI g ws Z f told) (ht : ∀ p ∈ ws, told p = told' p) : BatI g ws Z f told' :=
  ⟨h.nd, h.inw, h.key, h.ev, fun p hp => (h.val p hp).trans (ht p hp)⟩
theorem BatI.add {g : PH} {ws : WL} {Z Z' : List (Nat × Nat)} {f : Nat → List PE} {told : Wa × Nat → List EV} {p : Wa × Nat} {x : PE} (h : BatI g ws Z f told) (hp : p ∈ ws) (hx : EvG g x.1 x.2) (h1 : (Z'.map (·.1)).Nodup) (h2 : ∀ k, k ∈ Z'.map (·.1) ↔ k = p.2 ∨ k ∈ Z.map (·.1)) :
    BatI g ws Z' (moreE f p.2 x) (fun q => if q.2 = p.2 then told q ++ [x.2] else told q) := by
  refine ⟨h1, fun r hr => ?_, fun r => ?_, fun r q hq => ?_, fun q hq => ?_⟩
  · rcases (h2 r).1 hr with rfl | hr
    · exact List.mem_map_of_mem hp
    · exact h.inw r hr
  · rw [h2]
    by_cases e : r = p.2
    · subst e
      rw [moreE_at]
      simp
    · rw [moreE_not e, ← h.key]
      simp [e]
  · by_cases e : r = p.2
    · subst e
      rw [moreE_at] at hq
      rcases List.mem_append.1 hq with hq | hq
      · exact h.ev _ q hq
      · simp only [List.mem_singleton] at hq
        subst hq
        exact hx
    · rw [moreE_not e] at hq
      exact h.ev _ q hq
  · by_cases e : q.2 = p.2
    · rw [if_pos e, e, moreE_at, List.map_append, ← e, h.val q hq]
      rfl
    · rw [if_neg e, moreE_not e]
      exact h.val q hq
theorem BatI.len {g : PH} {ws : WL} {Z : List (Nat × Nat)} {f : Nat → List PE} {told : Wa × Nat → List EV} {N : Nat} (h : BatI g ws Z f told) (ht : ∀ p, (told p).length ≤ N) (r : Nat) : (f r).length ≤ N := by
  by_cases e : f r = []
  · rw [e]; simp
  · obtain ⟨p, hp, rfl⟩ := List.mem_map.1 (h.inw r ((h.key r).2 e))
    have h1 := congrArg List.length (h.val p hp)
    rw [List.length_map] at h1
    rw [h1]
    exact ht p
def goes (done : List EV) (v : EV) (D : List Nat) : Wa × Nat → List EV := fun p => forW p.1 (done ++ if p.2 ∈ D then [v] else [])
section
variable {H H0 : Heap} {l l0 : List HP} {g : PH} {z km tp wm im sr : Nat} {ws : WL} {ZK : List (ByteArray × Nat)} {ZR : List (RK2 × Nat)} {T : Tr} {M : List (Int × Nat)} {F : List HP → List HP}
theorem has_take {r : Nat} {b : Obj} (S : Sat H (pt r b :: has g :: l)) : ∃ g', PH.sub g g' ∧ g' r = some b ∧ Sat H (has g' :: l) := by
  have hn := sep_has S
  obtain ⟨h, h1, h2, h', h3, h4, x⟩ := S.out
  refine ⟨fun i => if i = r then some b else g i, ?_, if_pos rfl, PH.join h h', ?_, ?_, x.mono ?_⟩
  · intro i o e
    dsimp only
    by_cases hi : i = r
    · rw [hi, hn] at e; cases e
    · rw [if_neg hi]; exact e
  · intro i o e
    dsimp only at e
    unfold PH.join
    by_cases hi : i = r
    · rw [if_pos hi] at e
      cases e
      rw [hi, show h r = some b from h1]
    · rw [if_neg hi] at e
      have e1 := h3 _ _ e
      have e2 := (PH.of_minus (h4 _ _ e1)).1
      rw [e2]
      exact e1
  · intro i o e
    unfold PH.join at e
    split at e
    · rename_i o' e'
      cases e
      exact h2 _ _ e'
    · exact (PH.of_minus (h4 _ _ e)).2
  · intro i o e
    obtain ⟨e1, e2⟩ := PH.of_minus e
    obtain ⟨e3, e4⟩ := PH.of_minus e2
    have : PH.join h h' i = none := by
      unfold PH.join
      rw [e3]
      exact e1
    rw [PH.minus_none this]
    exact e4
theorem goes_len {done : List EV} {v : EV} {D : List Nat} {p : Wa × Nat} : (goes done v D p).length ≤ done.length + 1 := by
  unfold goes forW
  refine Nat.le_trans (List.length_filter_le ..) ?_
  rw [List.length_append]
  split <;> simp
theorem goes_nil {done : List EV} {v : EV} {p : Wa × Nat} : goes done v [] p = forW p.1 done := by
  unfold goes
  simp
theorem inner_loop {R : Ending → Heap → Prop} {gA : PH} {o wb er : Nat} {s0 s16 : Option Addr} {s16n s16c : Nat} {s17 : Int} {i : Nat} {es : Array MapEntry} {clk : Nat} {L : List Nat} {v : EV} {done : List EV} (MM : MpF ptrK unitF es clk (unitL L)) (hL : ∀ r ∈ L, ∃ p ∈ ws, p.2 = r ∧ seesW p.1 v.key = true) (hLn : L.Nodup) (hN : done.length ≤ 100000)
    (fin : ∀ (H1 : Heap) (g : PH) (D : List Nat) (Z : List (Nat × Nat)) (f : Nat → List PE), D.Perm L → PH.sub gA g → BatI g ws Z f (goes done v D) → Sat H1 (pt o (.map es clk) :: mp ptrK ptrK wb Z :: bats f Z :: has g :: F l0) → F60.L0 s0 wb s16 s16n s16c s17 (IntKind.wrap .i64 ((i : Int) + (1 : Int))) H1 R) :
    ∀ (K ir : Nat) (seen : Array Nat) (D : List Nat) (Z : List (Nat × Nat)) (f : Nat → List PE) (g : PH) (H1 : Heap), (unseen es seen).length = K → (D ++ (unseen es seen).map keyN).Perm L → PH.sub gA g → GrpI g ws ZK ZR T → EvG g er v → BatI g ws Z f (goes done v D) →
      Sat H1 (pt ir (.mapIter (some o) clk seen clk) :: pt o (.map es clk) :: mp ptrK ptrK wb Z :: bats f Z :: has g :: F l0) →
      F60.L1 s0 wb (some (aA er)) s16 s16n s16c s17 (i : Int) (some ⟨ir, 0, none⟩) H1 R := by
  intro K
  induction K with
  | zero =>
    intro ir seen D Z f g H1 hK hp hA hG hv hB S
    have hu : unseen es seen = [] := List.eq_nil_of_length_eq_zero hK
    rw [hu, List.map_nil, List.append_nil] at hp
    refine F60.L1_step ?_
    unfold F60.L1n
    refine rangeNext MM S (fun _ => ?_) (fun a e b h => by rw [hu] at h; simp at h)
    (repeat (first | (refine Step.go ?_; intros) | refine iteB_t (by decide) ?_ | refine iteB_f (by decide) ?_ | (refine Duo.mk (by first | omega | exact rfl | decide) ?_; intros)))
    exact fin H1 g D Z f hp hA hB (S.to (Ent.drop .refl))
  | succ K ih =>
    intro ir seen D Z f g H1 hK hp hA hG hv hB S
    refine F60.L1_step ?_
    unfold F60.L1n
    refine rangeNext MM S (fun h => by rw [h] at hK; simp at hK) (fun a e b h h2 H2 S2 => ?_)
    clear S
    have hes : e ∈ es.toList := by
      have : e ∈ unseen es seen := by rw [h]; simp
      unfold unseen at this
      exact (List.mem_filter.1 this).1
    obtain ⟨k1, k2, k3⟩ := entN MM hes
    have hp2 := next_perm h h2 hp
    rw [k1, k2]
    (repeat (first | (refine Step.go ?_; intros) | refine iteB_t (by decide) ?_ | refine iteB_f (by decide) ?_ | (refine Duo.mk (by first | omega | exact rfl | decide) ?_; intros)))
    refine rangeEntry MM S2 hes ?_
    rw [k1, k2]
    generalize hr : keyN e = r at *
    obtain ⟨p, hpw, hpr, hsee⟩ := hL r k3
    have hs : PH.sub g (PH.of H2) := HasG.sub (l := pt ir (.mapIter (some o) clk (seen.push e.born) clk) :: pt o (.map es clk) :: mp ptrK ptrK wb Z :: bats f Z :: has g :: F l0) inferInstance S2
    have hwa := hG.wa p hpw
    have hpl := hwa.plain
    rw [hpr] at hwa hpl
    obtain ⟨kb, kc, ep, en, ec, ch, w1, w2, w3⟩ := hwa
    have hvo := hv.out
    obtain ⟨kv, vkb, vkc, vvb, vvc, vkr, vvr, vkf, vvf, p1, p2, p3, p4⟩ := hvo
    have B1 : Blc H2 r _ := ⟨hs _ _ w1⟩
    have B2 : Blc H2 er _ := ⟨hs _ _ p1⟩
    have B3 : Blc H2 kv _ := ⟨hs _ _ p2⟩
    have hnD : r ∉ D := by
      have hnd := hp2.nodup_iff.2 hLn
      rw [List.append_assoc, List.nodup_append] at hnd
      exact fun hm => hnd.2.2 r hm r (by simp) rfl
    have huq : ∀ q ∈ ws, q.2 = r → q = p := fun q hq e => hG.uniq hq hpw (e.trans hpr.symm)
    (repeat (first | (refine Step.go ?_; intros) | refine iteB_t (by decide) ?_ | refine iteB_f (by decide) ?_ | (refine Duo.mk (by first | omega | exact rfl | decide) ?_; intros)))
    refine iteB_i (fun hge => ?_) (fun hge => ?_)
    · have hge : v.m ≥ p.1.m := of_decide_eq_true hge
      (repeat (first | (refine Step.go ?_; intros) | refine iteB_t (by decide) ?_ | refine iteB_f (by decide) ?_ | (refine Duo.mk (by first | omega | exact rfl | decide) ?_; intros)))
      rename_i rr H4 S6
      clear S2 B1 B2 B3
      have S7 : Sat H4 (pt rr (.cells ⟨[.int .i32 (if v.gone then 1 else 0), pA kv, .pointer none]⟩ 88) :: has g :: mp ptrK ptrK wb Z :: bats f Z :: pt ir (.mapIter (some o) clk (seen.push e.born) clk) :: pt o (.map es clk) :: F l0) := by
        refine S6.to ?_
        iterate 6 (apply Ent.pick; (focus (repeat (first | exact Sel.here | apply Sel.there))))
        exact Ent.refl
      clear S6
      obtain ⟨g', hsub, hgr, S8⟩ := has_take S7
      clear S7
      have hx : EvG g' rr v := ⟨kv, vkb, vkc, vvb, vvc, vkr, vvr, vkf, vvf, hgr, hsub _ _ p2, hsub _ _ p3, hsub _ _ p4⟩
      have hB' := hB.mono hsub
      have hG' := hG.mono hsub
      have hpl' : plainG g' r := by
        obtain ⟨c1, T1, z1, e1⟩ := hpl
        exact ⟨c1, T1, z1, hsub _ _ e1⟩
      have S9 : Sat H4 (mp ptrK ptrK wb Z :: bats f Z :: has g' :: pt ir (.mapIter (some o) clk (seen.push e.born) clk) :: pt o (.map es clk) :: F l0) := by
        refine S8.to ?_
        iterate 5 (apply Ent.pick; (focus (repeat (first | exact Sel.here | apply Sel.there))))
        exact Ent.refl
      clear S8
      refine callD_i (wbAdd_ok (x := (rr, v)) hpl' (fun y hy => hG'.plain _ (hB'.inw _ (List.mem_map_of_mem hy))) hB'.nd (fun hk => by
        by_cases hf : f r = []
        · exact hf
        · exact absurd ((hB'.key r).2 hf) hk) hx (hB'.ev r) (Nat.le_trans (hB'.len (N := done.length + 1) (fun q => goes_len) r) (by omega)) S9) ?_
      rintro _ H5 ⟨rfl, Z', z1, z2, S10⟩
      clear S9
      (repeat (first | (refine Step.go ?_; intros) | refine iteB_t (by decide) ?_ | refine iteB_f (by decide) ?_ | (refine Duo.mk (by first | omega | exact rfl | decide) ?_; intros)))
      have hB2 : BatI g' ws Z' (moreE f r (rr, v)) (goes done v (D ++ [r])) := by
        have := hB'.add hpw (x := (rr, v)) hx z1 (fun k => by rw [z2, hpr])
        rw [hpr] at this
        refine this.told_congr fun q hq => ?_
        by_cases e1 : q.2 = r
        · rw [if_pos e1]
          have := huq q hq e1
          subst this
          unfold goes
          rw [e1, if_neg hnD, if_pos (by simp), List.append_nil, forW_snoc, if_pos (by rw [hsee]; simp; exact hge)]
        · rw [if_neg e1]
          unfold goes
          simp [e1]
      refine ih ir (seen.push e.born) (D ++ [r]) Z' _ g' H5 (by rw [h2]; rw [h] at hK; simp at hK ⊢; omega) hp2 (hA.trans hsub) hG' (hv.mono hsub) hB2 (S10.to ?_)
      iterate 5 (apply Ent.pick; (focus (repeat (first | exact Sel.here | apply Sel.there))))
      exact Ent.refl
    · have hge : ¬ v.m ≥ p.1.m := of_decide_eq_false hge
      have hB2 : BatI g ws Z f (goes done v (D ++ [r])) := by
        refine hB.told_congr fun q hq => ?_
        by_cases e1 : q.2 = r
        · have := huq q hq e1
          subst this
          unfold goes
          rw [e1, if_neg hnD, if_pos (by simp), List.append_nil, forW_snoc, if_neg (by simp; intro _; omega), List.append_nil]
        · unfold goes
          simp [e1]
      exact ih ir (seen.push e.born) (D ++ [r]) Z f g H2 (by rw [h2]; rw [h] at hK; simp at hK ⊢; omega) hp2 hA hG hv hB2 S2
end
end Go.Proofs.YtobolifgehagfaaGreat

set_option linter.unusedVariables false
set_option linter.unusedSimpArgs false
set_option linter.unnecessarySimpa false
namespace Go.Proofs.YtobolifgehagfaaGreat
open Go Go.Den Go.Proofs
def mpB (mo : Option Nat) (Z : List (Nat × Nat)) : HP := match mo with | some o => mp ptrK ptrK o Z | none => lift (Z = [])
section
variable {H H0 : Heap} {l : List HP} {g : PH} {z km tp wm im sr : Nat} {ws : WL} {ZK : List (ByteArray × Nat)} {ZR : List (RK2 × Nat)} {T : Tr} {M : List (Int × Nat)} {q : Option Addr} {n c : Nat} {ps : List PE}
theorem goes_done {done : List EV} {v : EV} {D : List Nat} (hD : D.Perm (seenR ws v.key)) : ∀ p ∈ ws, goes done v D p = forW p.1 (done ++ [v]) := by
  intro p hp
  unfold goes
  by_cases h : p.2 ∈ D
  · rw [if_pos h]
  · rw [if_neg h, List.append_nil, forW_snoc]
    have : seesW p.1 v.key = false := by
      cases e : seesW p.1 v.key with
      | false => rfl
      | true =>
        exfalso
        refine h (hD.mem_iff.2 ?_)
        unfold seenR
        exact List.mem_map_of_mem (List.mem_filter.2 ⟨hp, e⟩)
    rw [this]
    simp
def NwbO (g : PH) (z km tp wm im sr : Nat) (ws : WL) (ZK : List (ByteArray × Nat)) (ZR : List (RK2 × Nat)) (T : Tr) (M : List (Int × Nat)) (l : List HP) (evs : List EV) (e : Ending) (H1 : Heap) : Prop :=
  ∃ mo Z f g', e = .returned (.map mo) ∧ PH.sub g g' ∧ BatI g' ws Z f (fun p => forW p.1 evs) ∧ Sat H1 (mpB mo Z :: bats f Z :: grpM g' z km tp wm im sr ws ZK ZR T M l)
theorem outer_loop {wb : Nat} (hG0 : GrpI g ws ZK ZR T) (hE : ∀ p ∈ ps, EvG g p.1 p.2) (hk : ∀ p ∈ ps, p.2.key.size ≠ 0 ∧ p.2.key.size ≤ 140737488351232) (hl : ws.length ≤ 100000) (hn : n ≤ 100000) (hlen : ps.length = n) :
    ∀ (k i : Nat) (Z : List (Nat × Nat)) (f : Nat → List PE) (g1 : PH) (H : Heap), i + k = n → PH.sub g g1 → BatI g1 ws Z f (fun p => forW p.1 ((ps.take i).map (·.2))) →
      Sat H (grpM g1 z km tp wm im sr ws ZK ZR T M (mp ptrK ptrK wb Z :: bats f Z :: sl peC 77 1 q n c ps :: l)) →
      F60.L0 (some (aA z)) wb q n c ((n : Nat) : Int) (i : Int) H (NwbO g z km tp wm im sr ws ZK ZR T M (sl peC 77 1 q n c ps :: l) (ps.map (·.2))) := by
  intro k
  induction k with
  | zero =>
    intro i Z f g1 H hi hs1 hB S
    obtain rfl : i = n := by omega
    refine F60.L0_step ?_
    unfold F60.L0n
    refine iteB_f (by simp) ?_
    rw [← hlen, List.take_length] at hB
    refine ⟨some wb, Z, f, g1, rfl, hs1, hB, S.to ?_⟩
    unfold mpB
    iterate 12 (apply Ent.pick; (focus (repeat (first | exact Sel.here | apply Sel.there))))
    exact Ent.refl
  | succ k ih =>
    intro i Z f g1 H hi hs1 hB S
    obtain ⟨x, hx⟩ : ∃ x, ps[i]? = some x := get_of (by omega)
    have hxm := List.mem_of_getElem? hx
    have hG := hG0.mono hs1
    have hv := (hE x hxm).mono hs1
    obtain ⟨hk1, hk2⟩ := hk x hxm
    have hI := HasI.nat hx
    have et : (ps.take (i + 1)).map (·.2) = (ps.take i).map (·.2) ++ [x.2] := by rw [List.take_add_one, hx, List.map_append]; rfl
    obtain ⟨ra, oa, rfl⟩ := S.slSome (f := peC) (E := 77) (z := 1) (p := q) (n := n) (c := c) (xs := ps) (by simp) (by omega)
    have hs : PH.sub g1 (PH.of H) := HasG.sub (l := grpM g1 z km tp wm im sr ws ZK ZR T M (mp ptrK ptrK wb Z :: bats f Z :: sl peC 77 1 (some ⟨ra, oa, none⟩) n c ps :: l)) inferInstance S
    obtain ⟨kv, vkb, vkc, vvb, vvc, vkr, vvr, vkf, vvf, p1, p2, p3, p4⟩ := hv.out
    refine F60.L0_step ?_
    unfold F60.L0n
    refine iteB_t (decide_eq_true (by omega)) ?_
    have B1 : Blc H x.1 _ := ⟨hs _ _ p1⟩
    have B2 : Blc H kv _ := ⟨hs _ _ p2⟩
    (repeat (first | (refine Step.go ?_; intros) | refine iteB_t (by decide) ?_ | refine iteB_f (by decide) ?_ | (refine Duo.mk (by first | omega | exact rfl | decide) ?_; intros)))
    refine bs_i (hs _ _ p3) ?_
    (repeat (first | (refine Step.go ?_; intros) | refine iteB_t (by decide) ?_ | refine iteB_f (by decide) ?_ | (refine Duo.mk (by first | omega | exact rfl | decide) ?_; intros)))
    refine callD_i (setBy_ok hG hk1 hk2 hl S) ?_
    rintro _ H1 ⟨mo, L, F, rfl, hL, hF, S1, back⟩
    clear S B1 B2
    refine ⟨_, rfl, ?_⟩
    have e3 : IntKind.wrap .i64 ((i : Int) + (1 : Int)) = ((i + 1 : Nat) : Int) := by rw [wr64 (by omega) (by omega)]; rfl
    cases mo with
    | none =>
      obtain ⟨hL0, S2⟩ : L = [] ∧ Sat H1 (has g1 :: F (mp ptrK ptrK wb Z :: bats f Z :: sl peC 77 1 (some ⟨ra, oa, none⟩) n c ps :: l)) := by
        obtain ⟨a, b⟩ := SatP.lift_iff.1 S1.out
        exact ⟨a, ⟨b⟩⟩
      refine rangeNil um S1 fun ir H2 S3 => ?_
      refine ⟨_, rfl, ?_⟩
      refine F60.L1_step ?_
      unfold F60.L1n
      refine nextNil S3 ?_
      (repeat (first | (refine Step.go ?_; intros) | refine iteB_t (by decide) ?_ | refine iteB_f (by decide) ?_ | (refine Duo.mk (by first | omega | exact rfl | decide) ?_; intros)))
      rw [e3]
      refine ih (i + 1) Z f g1 H2 (by omega) hs1 (hB.told_congr fun p hp => ?_) ((S3.to (Ent.drop .refl)).to (back _ _))
      have h1 := goes_done (done := (ps.take i).map (·.2)) (v := x.2) (D := []) (by rw [← hL0]; exact hL) p hp
      rw [goes_nil] at h1
      rw [et]
      exact h1
    | some o =>
      obtain ⟨es, clk, MM, S2⟩ := S1.mpOpen
      clear S1
      refine rangeNew um S2 fun ir H2 S3 => ?_
      clear S2
      refine ⟨_, rfl, ?_⟩
      have hLs : ∀ r ∈ L, ∃ p ∈ ws, p.2 = r ∧ seesW p.1 x.2.key = true := by
        intro r hr
        have := hL.mem_iff.1 hr
        unfold seenR at this
        obtain ⟨p, hp, e⟩ := List.mem_map.1 this
        obtain ⟨h1, h2⟩ := List.mem_filter.1 hp
        exact ⟨p, h1, e, h2⟩
      have hLn : L.Nodup := by
        refine hL.nodup_iff.2 ?_
        unfold seenR
        exact hG.rs.sublist (List.filter_sublist.map _)
      have htl : ((ps.take i).map (·.2)).length ≤ 100000 := by rw [List.length_map, List.length_take]; omega
      have S4 : Sat H2 (pt ir (.mapIter (some o) clk #[] clk) :: pt o (.map es clk) :: mp ptrK ptrK wb Z :: bats f Z :: has g1 :: F (sl peC 77 1 (some ⟨ra, oa, none⟩) n c ps :: l)) := by
        have S5 := (S3.to (Ent.cons (Ent.cons (Ent.cons (hF _ _).1)))).to (Ent.cons (Ent.cons (Ent.cons (Ent.cons (hF _ _).1))))
        refine S5.to ?_
        iterate 5 (apply Ent.pick; (focus (repeat (first | exact Sel.here | apply Sel.there))))
        exact Ent.refl
      clear S3
      refine inner_loop (gA := g1) (v := x.2) (done := (ps.take i).map (·.2)) MM hLs hLn htl ?_ _ ir #[] [] Z f g1 H2 rfl (by rw [unseen_nil, keysN MM]; exact .refl _) (fun _ _ h => h) hG hv (hB.told_congr fun p hp => goes_nil.symm) S4
      intro H3 g2 D Z' f' hD hs2 hB' S5
      rw [e3]
      refine ih (i + 1) Z' f' g2 H3 (by omega) (hs1.trans hs2) (hB'.told_congr fun p hp => by rw [goes_done (hD.trans hL) p hp, et]) ?_
      have S6 : Sat H3 (mpO (some o) L :: has g2 :: mp ptrK ptrK wb Z' :: bats f' Z' :: F (sl peC 77 1 (some ⟨ra, oa, none⟩) n c ps :: l)) := by
        refine (S5.to (Ent.mpClose MM)).to ?_
        unfold mpO
        iterate 4 (apply Ent.pick; (focus (repeat (first | exact Sel.here | apply Sel.there))))
        exact Ent.refl
      exact ((S6.to (Ent.cons (Ent.cons (Ent.cons (hF _ _).2)))).to (Ent.cons (Ent.cons (hF _ _).2))).to (back _ _)
theorem nwb_ok (hG : GrpI g ws ZK ZR T) (hE : ∀ p ∈ ps, EvG g p.1 p.2) (hk : ∀ p ∈ ps, p.2.key.size ≠ 0 ∧ p.2.key.size ≤ 140737488351232) (hl : ws.length ≤ 100000) (hn : n ≤ 100000)
    (S : Sat H (grpM g z km tp wm im sr ws ZK ZR T M (sl peC 77 1 q n c ps :: l))) :
    CallsH Tryz.prog 60 ⟨[pA z, .slice q n c]⟩ H (NwbO g z km tp wm im sr ws ZK ZR T M (sl peC 77 1 q n c ps :: l) (ps.map (·.2))) := by
  have hlen := (Sat.slLen (f := peC) (E := 77) (z := 1) (p := q) (n := n) (c := c) (xs := ps) S (by simp)).1
  refine F60.calls ?_
  unfold F60.go
  (repeat (first | (refine Step.go ?_; intros) | refine iteB_t (by decide) ?_ | refine iteB_f (by decide) ?_ | (refine Duo.mk (by first | omega | exact rfl | decide) ?_; intros)))
  obtain ⟨h', ⟨es, clk, hb, he, _, _⟩, hs⟩ := S.mem (c := mp ptrK unitF wm (unitL (ws.map (·.2)))) (by simp)
  refine mapLen (t := 94) rfl um (hs _ _ hb) ?_
  have he0 : es.size = ws.length := by
    have := congrArg List.length he
    simpa using this
  rw [he0]
  refine ⟨_, rfl, ?_⟩
  refine iteB_i (fun h => ?_) (fun h => ?_)
  · have hw : ws = [] := List.length_eq_zero_iff.1 (by have := eq_of_beq h; omega)
    subst hw
    refine ⟨none, [], fun _ => [], g, rfl, fun _ _ h => h, ⟨List.Pairwise.nil, (fun r h => by cases h), (fun r => by simp), (fun r p h => by cases h), (fun p h => by cases h)⟩, ?_⟩
    exact (S.to bats_nil).to (Ent.lift rfl .refl)
  · refine Step.go ?_
    intro wb H2 S2
    clear S
    have S3 := S2.mpNew ptrK ptrK
    refine outer_loop hG hE hk hl hn hlen n 0 [] (fun _ => []) g H2 (by omega) (fun _ _ h => h) ⟨List.Pairwise.nil, (fun r h => by cases h), (fun r => by simp), (fun r p h => by cases h), (fun p h => by simp [forW])⟩ ?_
    have S4 := S3.to (bats_nil (f := fun _ => []))
    refine S4.to ?_
    iterate 13 (apply Ent.pick; (focus (repeat (first | exact Sel.here | apply Sel.there))))
    exact Ent.refl
end
end Go.Proofs.YtobolifgehagfaaGreat

set_option linter.unusedVariables false
set_option linter.unusedSimpArgs false
set_option linter.unnecessarySimpa false
namespace Go.Proofs.YtobolifgehagfaaGreat
open Go Go.Den Go.Proofs
structure BR where
  id : Int
  q : Option Addr
  c : Nat
  ps : List PE
abbrev BR.cells (b : BR) : List Value := tdC b.id b.q (runB b.ps).evs.length b.c (runB b.ps).revs (runB b.ps).more
def valN (e : MapEntry) : Nat := match e.val with | .pointer (some a) => a.block | _ => 0
theorem nodup_key : ∀ {Z : List (Nat × Nat)} {r a b : Nat}, (Z.map (·.1)).Nodup → (r, a) ∈ Z → (r, b) ∈ Z → a = b
  | [], _, _, _, _, h, _ => by cases h
  | x :: Z, r, a, b, hn, h1, h2 => by
    rw [List.map_cons, List.nodup_cons] at hn
    rcases List.mem_cons.1 h1 with e1 | m1
    · rcases List.mem_cons.1 h2 with e2 | m2
      · rw [← e1] at e2; cases e2; rfl
      · rw [← e1] at hn; exact absurd (List.mem_map.2 ⟨(r, b), m2, rfl⟩ : r ∈ Z.map (·.1)) hn.1
    · rcases List.mem_cons.1 h2 with e2 | m2
      · rw [← e2] at hn; exact absurd (List.mem_map.2 ⟨(r, a), m1, rfl⟩ : r ∈ Z.map (·.1)) hn.1
      · exact nodup_key hn.2 m1 m2
section
variable {es : Array MapEntry} {clk : Nat} {Z : List (Nat × Nat)}
theorem keysZ (F : MpF ptrK ptrK es clk Z) : es.toList.map keyN = Z.map (·.1) := by
  have h := congrArg (List.map fun p : Value × Value => (match p.1 with | .pointer (some a) => a.block | _ => 0)) F.eq
  rw [List.map_map, List.map_map] at h
  exact h
theorem entZ (F : MpF ptrK ptrK es clk Z) {e : MapEntry} (h : e ∈ es.toList) : e.key = ptrK (keyN e) ∧ e.val = ptrK (valN e) ∧ (keyN e, valN e) ∈ Z := by
  have h1 : (e.key, e.val) ∈ es.toList.map (fun e => (e.key, e.val)) := List.mem_map_of_mem h
  rw [F.eq] at h1
  obtain ⟨x, hx, h2⟩ := List.mem_map.1 h1
  have k1 : ptrK x.1 = e.key := congrArg Prod.fst h2
  have k2 : ptrK x.2 = e.val := congrArg Prod.snd h2
  have k3 : keyN e = x.1 := by unfold keyN; rw [← k1]
  have k4 : valN e = x.2 := by unfold valN; rw [← k2]
  rw [k3, k4]
  exact ⟨k1.symm, k2.symm, hx⟩
theorem next_permZ {seen : Array Nat} {a b : List MapEntry} {e : MapEntry} {D L : List Nat} (h : unseen es seen = a ++ e :: b) (h2 : unseen es (seen.push e.born) = a ++ b) (hp : (D ++ (unseen es seen).map keyN).Perm L) : (D ++ [keyN e] ++ (unseen es (seen.push e.born)).map keyN).Perm L := by
  refine List.Perm.trans ?_ hp
  rw [h, h2, List.append_assoc]
  refine List.Perm.append_left D ?_
  rw [List.map_append, List.map_append, List.map_cons]
  rw [List.singleton_append]
  exact List.perm_middle.symm
end
theorem ub : Tryz.prog.underlying 134 = some (.map 117 78) := by kernel_rfl
section
variable {H H0 : Heap} {l : List HP} {g : PH} {z km tp wm im sr : Nat} {ws : WL} {ZK : List (ByteArray × Nat)} {ZR : List (RK2 × Nat)} {T : Tr} {M : List (Int × Nat)} {q : Option Addr} {n c : Nat} {ps : List PE} {f : Nat → List PE} {Z : List (Nat × Nat)}
theorem batOf {k : PH} {Z : List (Nat × Nat)} {r eb : Nat} (h : (r, eb) ∈ Z) (x : SatP k [bats f Z]) : ∃ q c, k eb = some (btO (runB (f r)) q c) ∧ ∃ h, PH.sub h k ∧ sl peC 77 1 q (runB (f r)).evs.length c (runB (f r)).evs h := by
  obtain ⟨A, B, rfl⟩ := List.append_of_mem h
  obtain ⟨h, ⟨⟨q, c⟩, hst⟩, hs, _⟩ := bats_out _ x
  obtain ⟨h1, a1, s1, h2, a2, s2, _⟩ := hst
  exact ⟨q, c, hs _ _ (s1 _ _ a1), h2, (s2.trans PH.minus_sub).trans hs, a2⟩
def RowsG (g : PH) (q : Option Addr) (xs : List PE) : Prop := ∀ H', PH.sub g (PH.of H') → RowsAt peC 1 H' q xs
theorem qcOf {k : PH} (hn : (Z.map (·.1)).Nodup) (x : SatP k [bats f Z]) : ∃ qc : Nat → Option Addr × Nat, ∀ r eb, (r, eb) ∈ Z → k eb = some (btO (runB (f r)) (qc r).1 (qc r).2) ∧ RowsG k (qc r).1 (runB (f r)).evs := by
  have h : ∀ r, ∃ y : Option Addr × Nat, ∀ eb, (r, eb) ∈ Z → k eb = some (btO (runB (f r)) y.1 y.2) ∧ RowsG k y.1 (runB (f r)).evs := by
    intro r
    by_cases h : ∃ eb, (r, eb) ∈ Z
    · obtain ⟨eb, h⟩ := h
      obtain ⟨q, c, h1, h', h2, h3⟩ := batOf h x
      refine ⟨(q, c), fun eb' he => ?_⟩
      rw [nodup_key hn he h]
      refine ⟨h1, fun H' hs => ?_⟩
      have S : Sat H' [sl peC 77 1 q (runB (f r)).evs.length c (runB (f r)).evs] := ⟨⟨h', h3, h2.trans hs, trivial⟩⟩
      exact S.rowsAt (E := 77) (n := (runB (f r)).evs.length) (k := c) (by simp)
    · exact ⟨(none, 0), fun eb h' => absurd ⟨eb, h'⟩ h⟩
  exact Classical.axiomOfChoice h
theorem has_of {c : HP} (S : Sat H (c :: l)) : ∃ g, SatP g [c] ∧ Sat H (has g :: l) := by
  obtain ⟨h, h1, h2, x⟩ := S.out
  exact ⟨h, ⟨h, h1, PH.sub.refl, trivial⟩, ⟨⟨h, PH.sub.refl, h2, x⟩⟩⟩
def rowB (ws : WL) (qc : Nat → Option Addr × Nat) (f : Nat → List PE) (r : Nat) : BR := ⟨idN ws r, (qc r).1, (qc r).2, f r⟩
theorem zb_loop {R : Ending → Heap → Prop} {H3 : Heap} {o : Nat} {es : Array MapEntry} {clk : Nat} {qc : Nat → Option Addr × Nat} (hG : GrpI g ws ZK ZR T) (hg : PH.sub g (PH.of H3)) (MM : MpF ptrK ptrK es clk Z) (hZ : ∀ r ∈ Z.map (·.1), r ∈ ws.map (·.2)) (hl : Z.length ≤ 1000000) (ho : H3[o]? = some (.map es clk))
    (hq : ∀ r eb, (r, eb) ∈ Z → H3[eb]? = some (btO (runB (f r)) (qc r).1 (qc r).2))
    (fin : ∀ (H1 : Heap) (D : List Nat) (p : Option Addr) (k : Nat), D.Perm (Z.map (·.1)) → Sat H1 [pt o (.map es clk), sl BR.cells 61 4 p D.length k (D.map (rowB ws qc f)), oldX o H3] → R (.returned (.slice p D.length k)) H1) :
    ∀ (K ir : Nat) (seen : Array Nat) (D : List Nat) (p : Option Addr) (k : Nat) (H1 : Heap), (unseen es seen).length = K → (D ++ (unseen es seen).map keyN).Perm (Z.map (·.1)) →
      Sat H1 [pt ir (.mapIter (some o) clk seen clk), pt o (.map es clk), sl BR.cells 61 4 p D.length k (D.map (rowB ws qc f)), oldX o H3] →
      F46.L0 p D.length k (some ⟨ir, 0, none⟩) H1 R := by
  intro K
  induction K with
  | zero =>
    intro ir seen D p k H1 hK hp S
    have hu : unseen es seen = [] := List.eq_nil_of_length_eq_zero hK
    rw [hu, List.map_nil, List.append_nil] at hp
    refine F46.L0_step ?_
    unfold F46.L0n
    refine rangeNext MM S (fun _ => ?_) (fun a e b h => by rw [hu] at h; simp at h)
    (repeat (first | (refine Step.go ?_; intros) | refine iteB_t (by decide) ?_ | refine iteB_f (by decide) ?_ | (refine Duo.mk (by first | omega | exact rfl | decide) ?_; intros)))
    exact fin H1 D p k hp (S.to (Ent.drop .refl))
  | succ K ih =>
    intro ir seen D p k H1 hK hp S
    refine F46.L0_step ?_
    unfold F46.L0n
    refine rangeNext MM S (fun h => by rw [h] at hK; simp at hK) (fun a e b h h2 H2 S2 => ?_)
    clear S
    have hes : e ∈ es.toList := by
      have : e ∈ unseen es seen := by rw [h]; simp
      unfold unseen at this
      exact (List.mem_filter.1 this).1
    obtain ⟨k1, k2, k3⟩ := entZ MM hes
    have hp2 := next_permZ h h2 hp
    have hDl : D.length + 1 ≤ Z.length := by
      have := hp2.length_eq
      rw [List.length_map] at this
      simp only [List.length_append, List.length_cons, List.length_nil] at this
      omega
    rw [k1, k2]
    (repeat (first | (refine Step.go ?_; intros) | refine iteB_t (by decide) ?_ | refine iteB_f (by decide) ?_ | (refine Duo.mk (by first | omega | exact rfl | decide) ?_; intros)))
    refine rangeEntry MM S2 hes ?_
    rw [k1, k2]
    generalize hr : keyN e = r at *
    generalize hv : valN e = eb at *
    obtain ⟨p0, hpw, hpr⟩ := List.mem_map.1 (hZ r (List.mem_map.2 ⟨_, k3, rfl⟩))
    have hwa := hG.wa p0 hpw
    rw [hpr] at hwa
    obtain ⟨kb, kc, ep, en, ec, ch, w1, w2, w3⟩ := hwa
    have hid : idN ws r = p0.1.id := by rw [← hpr]; exact hG.idN hpw
    have w4 : H3[r]? = some _ := hg _ _ w1
    have w5 := hq r eb k3
    have B1 : Blc H2 r _ := ⟨S2.xBlock (b := o) (H0 := H3) (by simp) (fun e => by rw [e, ho] at w4; cases w4) w4⟩
    have B2 : Blc H2 eb _ := ⟨S2.xBlock (b := o) (H0 := H3) (by simp) (fun e => by rw [e, ho] at w5; cases w5) w5⟩
    (repeat (first | (refine Step.go ?_; intros) | refine iteB_t (by decide) ?_ | refine iteB_f (by decide) ?_ | (refine Duo.mk (by first | omega | exact rfl | decide) ?_; intros)))
    rename_i rr H4 S6
    clear S2 B1 B2
    have S7 : Sat H4 [sl BR.cells 61 4 p D.length k (D.map (rowB ws qc f)), pt rr (.cells ⟨(rowB ws qc f r).cells⟩ 61), pt ir (.mapIter (some o) clk (seen.push e.born) clk), pt o (.map es clk), oldX o H3] := by
      unfold rowB BR.cells
      rw [hid]
      refine S6.to ?_
      iterate 4 (apply Ent.pick; (focus (repeat (first | exact Sel.here | apply Sel.there))))
      exact Ent.refl
    clear S6
    refine S7.slApp (ys := [rowB ws qc f r]) (q := some ⟨rr, 0, none⟩) (d := 1) ?_ rfl (by simp) (by simp [isCell]) rfl (by decide) (by omega) fun p2 k2' H5 S8 => ?_
    · simp only [List.flatMap_cons, List.flatMap_nil, List.append_nil]
      exact cellsAt_one (S7.at_ (List.mem_cons_of_mem _ (List.mem_cons_self ..)))
    clear S7
    have el : D.length + 1 = (D ++ [r]).length := by simp
    have em : D.map (rowB ws qc f) ++ [rowB ws qc f r] = (D ++ [r]).map (rowB ws qc f) := by simp
    rw [el] at S8 ⊢
    rw [em] at S8
    refine ih ir (seen.push e.born) (D ++ [r]) p2 k2' H5 (by rw [h2]; rw [h] at hK; simp at hK ⊢; omega) hp2 (S8.to ?_)
    iterate 3 (apply Ent.pick; (focus (repeat (first | exact Sel.here | apply Sel.there))))
    exact Ent.drop Ent.refl
def toTell (L : List Wa) (evs : List EV) : List (Int × List EV) := (L.filter fun x => !(forW x evs).isEmpty).map fun x => (x.id, forW x evs)
def ZbO (g : PH) (z km tp wm im sr : Nat) (ws : WL) (ZK : List (ByteArray × Nat)) (ZR : List (RK2 × Nat)) (T : Tr) (M : List (Int × Nat)) (l : List HP) (evs : List EV) (e : Ending) (H1 : Heap) : Prop :=
  ∃ p k R g' gB, e = .returned (.slice p (R : List BR).length k) ∧ PH.sub g g' ∧
    (∀ b ∈ R, RowsG gB b.q (runB b.ps).evs ∧ ∀ x ∈ b.ps, EvG g' x.1 x.2) ∧ (R.map fun b => (b.id, b.ps.map (·.2))).Perm (toTell (ws.map (·.1)) evs) ∧ Sat H1 (sl BR.cells 61 4 p R.length k R :: has gB :: grpM g' z km tp wm im sr ws ZK ZR T M l)
theorem old_oldX {H : Heap} {o : Nat} {b : Obj} {k : PH} (h : H[o]? = some b) (x : SatP k [pt o b, oldX o H]) : SatP k [old H] := by
  obtain ⟨h1, a1, a2, h2, b1, b2, _⟩ := x
  refine ⟨k, fun i y e => ?_, PH.sub.refl, trivial⟩
  by_cases hi : i = o
  · subst hi
    rw [h] at e
    cases e
    exact a2 _ _ a1
  · exact (PH.of_minus (b2 _ _ (b1 i y hi e))).2
theorem tell_perm {g' : PH} {evs : List EV} (hG : GrpI g' ws ZK ZR T) (hB : BatI g' ws Z f (fun p => forW p.1 evs)) {qc : Nat → Option Addr × Nat} {D : List Nat} (hD : D.Perm (Z.map (·.1))) :
    ((D.map (rowB ws qc f)).map fun b => (b.id, b.ps.map (·.2))).Perm (toTell (ws.map (·.1)) evs) := by
  have h1 : (Z.map (·.1)).Perm ((ws.filter fun p => !(forW p.1 evs).isEmpty).map (·.2)) := by
    refine (List.perm_ext_iff_of_nodup hB.nd (hG.rs.sublist (List.filter_sublist.map _))).2 fun r => ?_
    constructor
    · intro h
      obtain ⟨p, hp, rfl⟩ := List.mem_map.1 (hB.inw r h)
      refine List.mem_map_of_mem (List.mem_filter.2 ⟨hp, ?_⟩)
      have h2 := (hB.key p.2).1 h
      have h3 := hB.val p hp
      cases e : forW p.1 evs with
      | nil => rw [e] at h3; exact absurd (List.map_eq_nil_iff.1 h3) h2
      | cons => rfl
    · intro h
      obtain ⟨p, hp, rfl⟩ := List.mem_map.1 h
      obtain ⟨hp, h2⟩ := List.mem_filter.1 hp
      refine (hB.key p.2).2 fun h3 => ?_
      have h4 : ([] : List EV) = forW p.1 evs := by have := hB.val p hp; rw [h3] at this; exact this
      rw [← h4] at h2
      simp at h2
  rw [List.map_map]
  refine ((hD.trans h1).map _).trans (List.Perm.of_eq ?_)
  unfold toTell
  rw [List.map_map, List.filter_map, List.map_map]
  refine List.map_congr_left fun p hp => ?_
  have hp := (List.mem_filter.1 hp).1
  show (idN ws p.2, (f p.2).map (·.2)) = (p.1.id, forW p.1 evs)
  rw [hG.idN hp, hB.val p hp]
theorem zbatch_ok (hG : GrpI g ws ZK ZR T) (hE : ∀ p ∈ ps, EvG g p.1 p.2) (hk : ∀ p ∈ ps, p.2.key.size ≠ 0 ∧ p.2.key.size ≤ 140737488351232) (hl : ws.length ≤ 100000) (hn : n ≤ 100000)
    (S : Sat H (grpM g z km tp wm im sr ws ZK ZR T M (sl peC 77 1 q n c ps :: l))) :
    CallsH Tryz.prog 46 ⟨[pA z, .slice q n c]⟩ H (ZbO g z km tp wm im sr ws ZK ZR T M (sl peC 77 1 q n c ps :: l) (ps.map (·.2))) := by
  refine F46.calls ?_
  unfold F46.go
  (repeat (first | (refine Step.go ?_; intros) | refine iteB_t (by decide) ?_ | refine iteB_f (by decide) ?_ | (refine Duo.mk (by first | omega | exact rfl | decide) ?_; intros)))
  refine callD_i (nwb_ok hG hE hk hl hn S) ?_
  rintro _ H3 ⟨mo, Z, f, g', rfl, hs1, hB, S3⟩
  clear S
  refine ⟨_, rfl, ?_⟩
  have hG' := hG.mono hs1
  cases mo with
  | none =>
    obtain ⟨hZ, S4⟩ : Z = [] ∧ Sat H3 (bats f Z :: grpM g' z km tp wm im sr ws ZK ZR T M (sl peC 77 1 q n c ps :: l)) := by
      obtain ⟨a, b⟩ := SatP.lift_iff.1 S3.out
      exact ⟨a, ⟨b⟩⟩
    refine rangeNil ub (Sat.start H3) fun ir H4 S5 => ?_
    refine ⟨_, rfl, ?_⟩
    refine F46.L0_step ?_
    unfold F46.L0n
    refine nextNil S5 ?_
    (repeat (first | (refine Step.go ?_; intros) | refine iteB_t (by decide) ?_ | refine iteB_f (by decide) ?_ | (refine Duo.mk (by first | omega | exact rfl | decide) ?_; intros)))
    have ht := tell_perm (qc := fun _ => (none, 0)) (D := []) hG' hB (by rw [hZ]; exact .refl _)
    obtain ⟨gB, _, S6⟩ := has_of S4
    have S7 : Sat _ ([] ++ [old H3]) := S5.to (Ent.drop .refl)
    exact ⟨none, 0, [], g', gB, rfl, hs1, (fun b h => by cases h), ht, (S7.onto S6).to (Ent.slNil .refl)⟩
  | some o =>
    obtain ⟨es, clk, MM, S4⟩ := Sat.mpOpen (fk := ptrK) (fv := ptrK) (r := o) (m := Z) S3
    clear S3
    have ho : H3[o]? = some (.map es clk) := S4.at_ (List.mem_cons_self ..)
    have S6 := S4.to (Ent.drop .refl)
    obtain ⟨gB, hb, S6⟩ := has_of S6
    obtain ⟨qc, hqc⟩ := qcOf hB.nd hb
    have hg : PH.sub g' (PH.of H3) := by
      obtain ⟨h', a, b⟩ := S6.mem (c := has g') (by simp)
      exact a.trans b
    have hgB : PH.sub gB (PH.of H3) := HasG.sub (l := has gB :: grpM g' z km tp wm im sr ws ZK ZR T M (sl peC 77 1 q n c ps :: l)) inferInstance S6
    have hZl : Z.length ≤ 1000000 := by
      have := nodup_le hB.nd (b := ws.map (·.2)) hB.inw
      rw [List.length_map, List.length_map] at this
      omega
    refine rangeNew ub (Sat.startX ho) fun ir H5 S5 => ?_
    refine ⟨_, rfl, ?_⟩
    refine zb_loop (f := f) (qc := qc) hG' hg MM hB.inw hZl ho (fun r eb h => hgB _ _ (hqc r eb h).1) ?_ _ ir #[] [] none 0 H5 rfl (by rw [unseen_nil, keysZ MM]; exact .refl _) (S5.to ?_)
    · intro H7 D p k hD S7
      have el : D.length = (D.map (rowB ws qc f)).length := by simp
      rw [el] at S7 ⊢
      have S8 : Sat H7 [sl BR.cells 61 4 p (D.map (rowB ws qc f)).length k (D.map (rowB ws qc f)), pt o (.map es clk), oldX o H3] := by
        refine S7.to ?_
        apply Ent.pick
        · focus (repeat (first | exact Sel.here | apply Sel.there))
        · exact Ent.refl
      have S9 : Sat H7 ([sl BR.cells 61 4 p (D.map (rowB ws qc f)).length k (D.map (rowB ws qc f))] ++ [old H3]) := S8.to (Ent.cons fun k x => old_oldX ho x)
      refine ⟨p, k, D.map (rowB ws qc f), g', gB, rfl, hs1, ?_, tell_perm hG' hB hD, S9.onto S6⟩
      intro b hb
      obtain ⟨r, hr, rfl⟩ := List.mem_map.1 hb
      obtain ⟨x, hx, rfl⟩ := List.mem_map.1 (hD.mem_iff.1 hr)
      exact ⟨(hqc x.1 x.2 hx).2, hB.ev x.1⟩
    · iterate 2 (apply Ent.pick; (focus (repeat (first | exact Sel.here | apply Sel.there))))
      exact Ent.slNil Ent.refl
end
end Go.Proofs.YtobolifgehagfaaGreat
