/- What functions of this seat do, each proved by a walk; no condition. -/
import Derived.Test.YtobolifgehagfaaJM2
import Derived.Test.YtobolifgehagfaaJM1
set_option linter.unusedVariables false
set_option linter.unusedSimpArgs false
set_option linter.unnecessarySimpa false
namespace Go.Proofs.Ytobolifgehagfaa
open Go Go.Den Go.Proofs
section
variable {H : Heap} {l m : List HP} {g : PH} {o : Int} {sr b tp : Nat}
theorem RB.path {T : Tr} (h : RB T) (o : Int) (z : It) : rootB (path o z.B z.E T []) := (h.fixPre o z).rb
/-- Insert. -/
theorem insert_ok {i j v : IV} {B E : EN} {T : Tr} {n : Int} (hi : IsG g o i B) (hj : IsG g o j E) (hT : RB T) (hn : -1000000000 ≤ n ∧ n ≤ 1000000000)
    (S : Sat H (tr g o sr sr T :: pt tp (treO (T.ref sr) n sr) :: pt sr senO :: has g :: l)) :
    CallsH Try.prog 142 ⟨[pA tp, .agg ⟨[i.v, j.v]⟩, v.v]⟩ H (fun e H1 => e = .returned (.tuple ⟨[]⟩) ∧ ∃ r, Sat H1 (tr g o sr sr (ins o ⟨r, i, j, v, B, E⟩ T) :: pt tp (treO ((ins o ⟨r, i, j, v, B, E⟩ T).ref sr) (n + 1) sr) :: pt sr senO :: has g :: l)) := by
  refine F142.calls (s1_0 := i) (s1_1 := j) (s2 := v) ?_
  unfold F142.go
  (repeat (first | (refine Step.go ?_; intros) | refine iteB_t (by decide) ?_ | refine iteB_f (by decide) ?_ | (refine Duo.mk (by first | omega | exact rfl | decide) ?_; intros) | (refine Duo.mk (Clo.mk (by kernel_rfl)) ?_; intros)))
  rename_i r0 H1 S1
  have T1 : Sat H1 (pt tp (treO (T.ref sr) n sr) :: tr g o sr sr T :: pt sr senO :: has g :: l) := by
    refine S1.to ?_
    iterate 4 (apply Ent.pick; (focus (repeat (first | exact Sel.here | apply Sel.there))))
    exact Ent.drop Ent.refl
  clear S1 S
  refine call_of (create_ok (i := i) (j := j) (v := v) T1) ?_
  rintro _ H2 ⟨r, rfl, S2⟩
  (repeat (first | (refine Step.go ?_; intros) | refine iteB_t (by decide) ?_ | refine iteB_f (by decide) ?_ | (refine Duo.mk (by first | omega | exact rfl | decide) ?_; intros) | (refine Duo.mk (Clo.mk (by kernel_rfl)) ?_; intros)))
  have hz : r ≠ sr := S2.ne (r := r) (r' := sr) (o' := senO) (by (repeat (first | exact Sel.here | apply Sel.there))) (by (repeat (first | exact Sel.here | apply Sel.there)))
  have hO : OkI g o ⟨r, i, j, v, B, E⟩ := ⟨hi, hj⟩
  have T2 : Sat H2 (tr g o sr (par sr []) T :: cx g o sr (T.ref sr) (T.mx o) [] :: pt r (ndO ⟨r, i, j, v, B, E⟩ j sr sr sr true) :: pt tp (treO (rootR [] (T.ref sr)) n sr) :: pt sr senO :: has g :: l) := by
    refine S2.to ?_
    apply Ent.pick
    · (repeat (first | exact Sel.here | apply Sel.there))
    refine Ent.star ?_
    iterate 4 (apply Ent.pick; (focus (repeat (first | exact Sel.here | apply Sel.there))))
    exact Ent.refl
  exact ins_loop (z := ⟨r, i, j, v, B, E⟩) hO hz hn T [] H2 (fun f k' e => by cases e) (hT.path o ⟨r, i, j, v, B, E⟩) T2 (fun H3 S3 => ⟨rfl, r, by unfold ins; rw [setC_ref]; exact S3⟩)
end
/-! Trees that are only looked at. -/
class Blk (H : Heap) (r : Nat) (o : outParam Obj) : Prop where
  out : H[r]? = some o
section
variable {P : Program} {H : Heap} {l : List HP} {r j : Nat} {a : Addr} {cs : List Value} {T : TypeId} {fr : Nat × Nat}
theorem blk_cell {v : Value} (L : Loca a r j) (A : Blk H r (.cells ⟨cs⟩ T fr)) (N : Nth cs j v) : hcell H a = some v := by
  rw [L.out]
  exact hcell_of A.out N.out
instance (priority := 400) {kd : IntKind} {n : Int} {K : Int → Prop} [L : Loca a r j] [A : Blk H r (.cells ⟨cs⟩ T fr)] [N : Nth cs j (.int kd n)] : Step (ldInt H a kd K) (K n) := ⟨fun h => ⟨_, blk_cell L A N, h⟩⟩
instance (priority := 400) {n : Bool} {K : Bool → Prop} [L : Loca a r j] [A : Blk H r (.cells ⟨cs⟩ T fr)] [N : Nth cs j (.bool n)] : Step (ldBool H a K) (K n) := ⟨fun h => ⟨_, blk_cell L A N, h⟩⟩
instance (priority := 400) {n : ByteArray} {K : ByteArray → Prop} [L : Loca a r j] [A : Blk H r (.cells ⟨cs⟩ T fr)] [N : Nth cs j (.string n)] : Step (ldStr H a K) (K n) := ⟨fun h => ⟨_, blk_cell L A N, h⟩⟩
instance (priority := 400) {n : Option Addr} {K : Option Addr → Prop} [L : Loca a r j] [A : Blk H r (.cells ⟨cs⟩ T fr)] [N : Nth cs j (.pointer n)] : Step (ldPtr H a K) (K n) := ⟨fun h => ⟨_, blk_cell L A N, h⟩⟩
instance (priority := 400) {p : Option Addr} {n c : Nat} {K : Option Addr → Nat → Nat → Prop} [L : Loca a r j] [A : Blk H r (.cells ⟨cs⟩ T fr)] [N : Nth cs j (.slice p n c)] : Step (ldSl H a K) (K p n c) := ⟨fun h => ⟨_, _, _, blk_cell L A N, h⟩⟩
instance (priority := 400) {K : IV → Prop} [L : Loca a r j] [A : Blk H r (.cells ⟨cs⟩ T fr)] [N : Nth cs j .nilIface] : Step (ldIf H a K) (K .nil) := ⟨fun h => ⟨.nil, blk_cell L A N, h⟩⟩
instance (priority := 400) {t : TypeId} {x : Value} {K : IV → Prop} [L : Loca a r j] [A : Blk H r (.cells ⟨cs⟩ T fr)] [N : Nth cs j (.iface t x)] : Step (ldIf H a K) (K (.mk t x)) := ⟨fun h => ⟨.mk t x, blk_cell L A N, h⟩⟩
instance (priority := 400) {i : IV} {K : IV → Prop} [L : Loca a r j] [A : Blk H r (.cells ⟨cs⟩ T fr)] [N : Nth cs j i.v] : Step (ldIf H a K) (K i) := ⟨fun h => ⟨i, blk_cell L A N, h⟩⟩
end
theorem Blk.ext {H H1 : Heap} {r : Nat} {o : Obj} (h : Blk H r o) (e : ExtH H H1) : Blk H1 r o := ⟨e.block_some h.out⟩
/-- A tree stands in a heap. -/
def TrH (H : Heap) (g : PH) (o : Int) (sr : Nat) : Nat → Tr → Prop
  | _, .nil => True
  | p, .node it c t u => OkI g o it ∧ it.r ≠ sr ∧ (∃ m, IsM g o m (mx3 o it.E (t.mx o) (u.mx o)) ∧ Blk H it.r (ndO it m (t.ref sr) (u.ref sr) p c)) ∧ TrH H g o sr it.r t ∧ TrH H g o sr it.r u
section
variable {H H1 : Heap} {l m : List HP} {g : PH} {o : Int} {sr b tp : Nat}
theorem TrH.ext : ∀ {t : Tr} {p : Nat}, TrH H g o sr p t → ExtH H H1 → TrH H1 g o sr p t
  | .nil, _, _, _ => trivial
  | .node it c t u, p, ⟨h1, h2, ⟨m, h3, h4⟩, h5, h6⟩, e => ⟨h1, h2, ⟨m, h3, h4.ext e⟩, h5.ext e, h6.ext e⟩
theorem trH_of : ∀ {t : Tr} {p : Nat} {l : List HP}, Sat H (tr g o sr p t :: l) → TrH H g o sr p t
  | .nil, _, _, _ => trivial
  | .node it c t u, p, l, S => by
    obtain ⟨m, h1, h2, h3, S1⟩ := tr_open S
    refine ⟨h1, h2, ⟨m, h3, ⟨S1.at_ (by simp)⟩⟩, trH_of (S1.bring (c := tr g o sr it.r t) (by (repeat (first | exact Sel.here | apply Sel.there)))), trH_of (S1.bring (c := tr g o sr it.r u) (by (repeat (first | exact Sel.here | apply Sel.there))))⟩
theorem Sat.trH {p : Nat} {t : Tr} {r : List HP} (S : Sat H l) (s : Sel (tr g o sr p t) l r) : TrH H g o sr p t := trH_of (S.bring s)
theorem TrH.mem : ∀ {t : Tr} {p : Nat}, TrH H g o sr p t → ∀ {it : It}, it ∈ t.inL → OkI g o it ∧ it.r ≠ sr ∧ ∃ m x y p c, Blk H it.r (ndO it m x y p c)
  | .nil, _, _, it, h => by cases h
  | .node z c t u, p, ⟨h1, h2, ⟨m, h3, h4⟩, h5, h6⟩, it, h => by
    rw [Tr.inL] at h
    rcases List.mem_append.1 h with h | h
    · exact TrH.mem h5 h
    · rcases List.mem_cons.1 h with rfl | h
      · exact ⟨h1, h2, _, _, _, _, _, h4⟩
      · exact TrH.mem h6 h
theorem subExt {H H1 : Heap} {g : PH} (h : PH.sub g (PH.of H)) (e : ExtH H H1) : PH.sub g (PH.of H1) := h.trans fun b o x => e.block_some x
/-- Two ends compared. -/
theorem cmpH {i j : IV} {x y : EN} {Q : List PanicEntry → Heap → Prop} {K : Value → Heap → Prop} (hg : PH.sub g (PH.of H)) (hi : IsG g o i x) (hj : IsG g o j y) (S : Sat H l) (k : ∀ H1, ExtH H H1 → Sat H1 l → K (.int .i64 (cmpE o x y)) H1) : callI Try.prog i.v "Compare" [j.v] H Q K :=
  cmp_i (hi H hg) (hj H hg) S k
/-- Two intervals compared. -/
theorem compareC {a b : Nat} {i j i2 j2 : IV} {x xe y ye : EN} {ca cb : List Value} {Ta Tb : TypeId} (h1 : Blk H a (.cells ⟨ca⟩ Ta)) (h2 : Blk H b (.cells ⟨cb⟩ Tb)) (a0 : ca[0]? = some i.v) (a1 : ca[1]? = some j.v) (b0 : cb[0]? = some i2.v) (b1 : cb[1]? = some j2.v)
    (hi : IsE H o i x) (hj : IsE H o j xe) (hi2 : IsE H o i2 y) (hj2 : IsE H o j2 ye) :
    CallsH Try.prog 157 ⟨[pA a, .iface 291 (pA b)]⟩ H (Gives (.int .i64 (cmpI o x xe y ye)) H) := by
  have S := Sat.start H
  have A1 := atOld h1.out
  have A2 := atOld h2.out
  have N1 : Nth ca 0 i.v := ⟨a0⟩
  have N2 : Nth ca 1 j.v := ⟨a1⟩
  have N3 : Nth cb 0 i2.v := ⟨b0⟩
  have N4 : Nth cb 1 j2.v := ⟨b1⟩
  refine F157.calls (c := .mk 291 (pA b)) ?_
  unfold F157.go
  (repeat (first | (refine Step.go ?_; intros) | refine iteB_t (by decide) ?_ | refine iteB_f (by decide) ?_ | (refine Duo.mk (by first | omega | exact rfl | decide) ?_; intros) | (refine Duo.mk (Clo.mk (by kernel_rfl)) ?_; intros)))
  refine nilV_of hi.mk ?_
  (repeat (first | (refine Step.go ?_; intros) | refine iteB_t (by decide) ?_ | refine iteB_f (by decide) ?_ | (refine Duo.mk (by first | omega | exact rfl | decide) ?_; intros) | (refine Duo.mk (Clo.mk (by kernel_rfl)) ?_; intros)))
  refine cmp_i hi hi2 S ?_
  intro H1 E1 S1
  (repeat (first | (refine Step.go ?_; intros) | refine iteB_t (by decide) ?_ | refine iteB_f (by decide) ?_ | (refine Duo.mk (by first | omega | exact rfl | decide) ?_; intros) | (refine Duo.mk (Clo.mk (by kernel_rfl)) ?_; intros)))
  refine nilV_of hi.mk ?_
  (repeat (first | (refine Step.go ?_; intros) | refine iteB_t (by decide) ?_ | refine iteB_f (by decide) ?_ | (refine Duo.mk (by first | omega | exact rfl | decide) ?_; intros) | (refine Duo.mk (Clo.mk (by kernel_rfl)) ?_; intros)))
  refine cmp_i (hi.ext E1) (hj2.ext E1) S1 ?_
  intro H2 E2 S2
  (repeat (first | (refine Step.go ?_; intros) | refine iteB_t (by decide) ?_ | refine iteB_f (by decide) ?_ | (refine Duo.mk (by first | omega | exact rfl | decide) ?_; intros) | (refine Duo.mk (Clo.mk (by kernel_rfl)) ?_; intros)))
  refine nilV_of hj.mk ?_
  (repeat (first | (refine Step.go ?_; intros) | refine iteB_t (by decide) ?_ | refine iteB_f (by decide) ?_ | (refine Duo.mk (by first | omega | exact rfl | decide) ?_; intros) | (refine Duo.mk (Clo.mk (by kernel_rfl)) ?_; intros)))
  refine cmp_i (hj.ext (E1.trans E2)) (hi2.ext (E1.trans E2)) S2 ?_
  intro H3 E3 S3
  have E : ExtH H H3 := Sat.grown
  (repeat (first | (refine Step.go ?_; intros) | refine iteB_t (by decide) ?_ | refine iteB_f (by decide) ?_ | (refine Duo.mk (by first | omega | exact rfl | decide) ?_; intros) | (refine Duo.mk (Clo.mk (by kernel_rfl)) ?_; intros)))
  unfold cmpI
  have l0 : ¬ (cmpE o x y < 0 ∧ cmpE o xe y ≤ 0) → F157.L0 (cmpE o x ye) H3 (Gives (.int .i64 (if cmpE o x y < 0 ∧ cmpE o xe y ≤ 0 then (-1 : Int) else if 0 ≤ cmpE o x ye then 1 else 0)) H) := by
    intro hn
    rw [if_neg hn]
    refine F157.L0_step ?_
    unfold F157.L0n
    refine iteB_i (fun h => ?_) (fun h => ?_)
    · rw [if_pos (of_decide_eq_true h)]; exact ⟨rfl, E⟩
    · rw [if_neg (of_decide_eq_false h)]; exact ⟨rfl, E⟩
  refine iteB_i (fun h => ?_) (fun h => ?_)
  · have h := of_decide_eq_true h
    refine iteB_i (fun h2 => ?_) (fun h2 => ?_)
    · rw [if_pos ⟨h, of_decide_eq_true h2⟩]; exact ⟨rfl, E⟩
    · exact l0 (fun h3 => of_decide_eq_false h2 h3.2)
  · exact l0 (fun h3 => of_decide_eq_false h h3.1)
/-- What find gives. -/
theorem find_loop {i j : IV} {B E : EN} {n : Int} {rt vb : Nat} {H0 : Heap} (hi : IsG g o i B) (hj : IsG g o j E) : ∀ (t : Tr) (p : Nat) (H : Heap), ExtH H0 H → TrH H g o sr p t → Blk H tp (treO rt n sr) → Blk H sr senO → Blk H vb (.cells ⟨[i.v, j.v]⟩ 109) → PH.sub g (PH.of H) →
    F150.L0 (some (aA tp)) vb (some (aA (t.ref sr))) H (Gives (pA ((findT o B E t).ref sr)) H0) := by
  intro t
  induction t with
  | nil =>
    intro p H E0 hT b1 b2 b3 hg
    refine F150.L0_step ?_
    unfold F150.L0n
    (repeat (first | (refine Step.go ?_; intros) | refine iteB_t (by decide) ?_ | refine iteB_f (by decide) ?_ | (refine Duo.mk (by first | omega | exact rfl | decide) ?_; intros) | (refine Duo.mk (Clo.mk (by kernel_rfl)) ?_; intros)))
    refine pq_same ?_
    (repeat (first | (refine Step.go ?_; intros) | refine iteB_t (by decide) ?_ | refine iteB_f (by decide) ?_ | (refine Duo.mk (by first | omega | exact rfl | decide) ?_; intros) | (refine Duo.mk (Clo.mk (by kernel_rfl)) ?_; intros)))
    exact ⟨rfl, E0⟩
  | node it c t u ih1 ih2 =>
    intro p H E0 hT b1 b2 b3 hg
    obtain ⟨h1, h2, ⟨m, h3, h4⟩, h5, h6⟩ := hT
    have S := Sat.start H
    refine F150.L0_step ?_
    unfold F150.L0n
    dsimp only [Tr.ref]
    (repeat (first | (refine Step.go ?_; intros) | refine iteB_t (by decide) ?_ | refine iteB_f (by decide) ?_ | (refine Duo.mk (by first | omega | exact rfl | decide) ?_; intros) | (refine Duo.mk (Clo.mk (by kernel_rfl)) ?_; intros)))
    refine pq_ne h2 h4.out b2.out ?_
    (repeat (first | (refine Step.go ?_; intros) | refine iteB_t (by decide) ?_ | refine iteB_f (by decide) ?_ | (refine Duo.mk (by first | omega | exact rfl | decide) ?_; intros) | (refine Duo.mk (Clo.mk (by kernel_rfl)) ?_; intros)))
    refine nilV_of (hi H hg).mk ?_
    (repeat (first | (refine Step.go ?_; intros) | refine iteB_t (by decide) ?_ | refine iteB_f (by decide) ?_ | (refine Duo.mk (by first | omega | exact rfl | decide) ?_; intros) | (refine Duo.mk (Clo.mk (by kernel_rfl)) ?_; intros)))
    refine cmpH hg hi h1.1 S fun H1 E1 S1 => ?_
    have b3' := b3.ext E1
    have h4' := h4.ext E1
    have hg1 := subExt hg E1
    (repeat (first | (refine Step.go ?_; intros) | refine iteB_t (by decide) ?_ | refine iteB_f (by decide) ?_ | (refine Duo.mk (by first | omega | exact rfl | decide) ?_; intros) | (refine Duo.mk (Clo.mk (by kernel_rfl)) ?_; intros)))
    refine nilV_of (hj H hg).mk ?_
    (repeat (first | (refine Step.go ?_; intros) | refine iteB_t (by decide) ?_ | refine iteB_f (by decide) ?_ | (refine Duo.mk (by first | omega | exact rfl | decide) ?_; intros) | (refine Duo.mk (Clo.mk (by kernel_rfl)) ?_; intros)))
    refine cmpH hg1 hj h1.2 S1 fun H2 E2 S2 => ?_
    have E12 := E1.trans E2
    have h4'' := h4.ext E12
    (repeat (first | (refine Step.go ?_; intros) | refine iteB_t (by decide) ?_ | refine iteB_f (by decide) ?_ | (refine Duo.mk (by first | omega | exact rfl | decide) ?_; intros) | (refine Duo.mk (Clo.mk (by kernel_rfl)) ?_; intros)))
    have l1 : hitI o B E it = false → F150.L1 (some (aA tp)) vb (some (aA it.r)) (cmpE o B it.B) (cmpE o E it.E) H2 (Gives (pA ((findT o B E (.node it c t u)).ref sr)) H0) := by
      intro hh
      have goLeft : goL o B E it = true → F150.L0 (some (aA tp)) vb (some (aA (t.ref sr))) H2 (Gives (pA ((findT o B E (.node it c t u)).ref sr)) H0) := by
        intro hgl
        rw [findT, if_neg (by rw [hh]; simp), if_pos hgl]
        exact ih1 it.r H2 (E0.trans E12) (h5.ext E12) (b1.ext E12) (b2.ext E12) (b3.ext E12) (subExt hg E12)
      have goRight : goL o B E it = false → F150.L0 (some (aA tp)) vb (some (aA (u.ref sr))) H2 (Gives (pA ((findT o B E (.node it c t u)).ref sr)) H0) := by
        intro hgl
        rw [findT, if_neg (by rw [hh]; simp), if_neg (by rw [hgl]; simp)]
        exact ih2 it.r H2 (E0.trans E12) (h6.ext E12) (b1.ext E12) (b2.ext E12) (b3.ext E12) (subExt hg E12)
      refine F150.L1_step ?_
      unfold F150.L1n
      rw [cmpE_neg, cmpE_zero, cmpE_neg]
      refine iteB_i (fun h => ?_) (fun h => ?_)
      · (repeat (first | (refine Step.go ?_; intros) | refine iteB_t (by decide) ?_ | refine iteB_f (by decide) ?_ | (refine Duo.mk (by first | omega | exact rfl | decide) ?_; intros) | (refine Duo.mk (Clo.mk (by kernel_rfl)) ?_; intros)))
        exact goLeft (by unfold goL; rw [h]; rfl)
      refine iteB_i (fun h7 => ?_) (fun h7 => ?_)
      · rw [h] at h7
        have h8 : ltE o it.B B = false := by simpa using h7
        refine iteB_i (fun h9 => ?_) (fun h9 => ?_)
        · (repeat (first | (refine Step.go ?_; intros) | refine iteB_t (by decide) ?_ | refine iteB_f (by decide) ?_ | (refine Duo.mk (by first | omega | exact rfl | decide) ?_; intros) | (refine Duo.mk (Clo.mk (by kernel_rfl)) ?_; intros)))
          exact goLeft (by unfold goL; rw [h, h8, h9]; rfl)
        · (repeat (first | (refine Step.go ?_; intros) | refine iteB_t (by decide) ?_ | refine iteB_f (by decide) ?_ | (refine Duo.mk (by first | omega | exact rfl | decide) ?_; intros) | (refine Duo.mk (Clo.mk (by kernel_rfl)) ?_; intros)))
          exact goRight (by unfold goL; rw [h, h8, h9]; rfl)
      · rw [h] at h7
        have h8 : ltE o it.B B = true := by simpa using h7
        (repeat (first | (refine Step.go ?_; intros) | refine iteB_t (by decide) ?_ | refine iteB_f (by decide) ?_ | (refine Duo.mk (by first | omega | exact rfl | decide) ?_; intros) | (refine Duo.mk (Clo.mk (by kernel_rfl)) ?_; intros)))
        exact goRight (by unfold goL; rw [h, h8]; rfl)
    refine iteB_i (fun h => ?_) (fun h => ?_)
    · refine iteB_i (fun h7 => ?_) (fun h7 => ?_)
      · rw [findT, if_pos (by unfold hitI; rw [h, h7]; rfl)]
        exact ⟨rfl, E0.trans E12⟩
      · exact l1 (by unfold hitI; rw [h7]; simp)
    · exact l1 (by unfold hitI; rw [h]; rfl)
theorem find_ok {i j : IV} {B E : EN} {T : Tr} {n : Int} (hi : IsG g o i B) (hj : IsG g o j E) (hT : TrH H g o sr sr T) (b1 : Blk H tp (treO (T.ref sr) n sr)) (b2 : Blk H sr senO) (hg : PH.sub g (PH.of H)) :
    CallsH Try.prog 150 ⟨[pA tp, .agg ⟨[i.v, j.v]⟩]⟩ H (Gives (pA ((findT o B E T).ref sr)) H) := by
  have S := Sat.start H
  refine F150.calls (s1_0 := i) (s1_1 := j) ?_
  unfold F150.go
  (repeat (first | (refine Step.go ?_; intros) | refine iteB_t (by decide) ?_ | refine iteB_f (by decide) ?_ | (refine Duo.mk (by first | omega | exact rfl | decide) ?_; intros) | (refine Duo.mk (Clo.mk (by kernel_rfl)) ?_; intros)))
  rename_i r H1 S1
  have E1 : ExtH H H1 := Sat.grown
  have b1' := b1.ext E1
  (repeat (first | (refine Step.go ?_; intros) | refine iteB_t (by decide) ?_ | refine iteB_f (by decide) ?_ | (refine Duo.mk (by first | omega | exact rfl | decide) ?_; intros) | (refine Duo.mk (Clo.mk (by kernel_rfl)) ?_; intros)))
  exact find_loop hi hj T sr H1 E1 (hT.ext E1) b1' (b2.ext E1) ⟨S1.at_ (by simp)⟩ (subExt hg E1)
theorem Find_ok {i j : IV} {B E : EN} {T : Tr} {n : Int} (hi : IsG g o i B) (hj : IsG g o j E) (hT : TrH H g o sr sr T) (b1 : Blk H tp (treO (T.ref sr) n sr)) (b2 : Blk H sr senO) (hg : PH.sub g (PH.of H)) :
    CallsH Try.prog 140 ⟨[pA tp, .agg ⟨[i.v, j.v]⟩]⟩ H (Gives (match findT o B E T with | .nil => .pointer none | .node it _ _ _ => pA it.r) H) := by
  have S := Sat.start H
  refine F140.calls (ivl_0 := i) (ivl_1 := j) ?_
  unfold F140.go
  (repeat (first | (refine Step.go ?_; intros) | refine iteB_t (by decide) ?_ | refine iteB_f (by decide) ?_ | (refine Duo.mk (by first | omega | exact rfl | decide) ?_; intros) | (refine Duo.mk (Clo.mk (by kernel_rfl)) ?_; intros)))
  rename_i r H1 S1
  have E1 : ExtH H H1 := Sat.grown
  refine gives_i S1 (find_ok hi hj (hT.ext E1) (b1.ext E1) (b2.ext E1) (subExt hg E1)) ?_
  intro H2 E2 S2
  have E3 := E1.trans E2
  have b1' := b1.ext E3
  (repeat (first | (refine Step.go ?_; intros) | refine iteB_t (by decide) ?_ | refine iteB_f (by decide) ?_ | (refine Duo.mk (by first | omega | exact rfl | decide) ?_; intros) | (refine Duo.mk (Clo.mk (by kernel_rfl)) ?_; intros)))
  cases hf : findT o B E T with
  | nil =>
    refine pq_same ?_
    (repeat (first | (refine Step.go ?_; intros) | refine iteB_t (by decide) ?_ | refine iteB_f (by decide) ?_ | (refine Duo.mk (by first | omega | exact rfl | decide) ?_; intros) | (refine Duo.mk (Clo.mk (by kernel_rfl)) ?_; intros)))
    exact ⟨rfl, E3⟩
  | node it c t u =>
    have hsub : ∀ (T : Tr) (p : Nat), TrH H g o sr p T → findT o B E T = .node it c t u → it.r ≠ sr ∧ ∃ ob, Blk H it.r (.cells ob 135) := by
      intro T
      induction T with
      | nil => intro p _ h; simp [findT] at h
      | node z cz a b iha ihb =>
        intro p hz h
        obtain ⟨h1, h2, ⟨m, h3, h4⟩, h5, h6⟩ := hz
        unfold findT at h
        split at h
        · cases h; exact ⟨h2, _, h4⟩
        · split at h
          · exact iha _ h5 h
          · exact ihb _ h6 h
    obtain ⟨hne, ob, hb⟩ := hsub T sr hT hf
    refine pq_ne hne (hb.ext E3).out (b2.ext E3).out ?_
    (repeat (first | (refine Step.go ?_; intros) | refine iteB_t (by decide) ?_ | refine iteB_f (by decide) ?_ | (refine Duo.mk (by first | omega | exact rfl | decide) ?_; intros) | (refine Duo.mk (Clo.mk (by kernel_rfl)) ?_; intros)))
    exact ⟨rfl, E3⟩
end
end Go.Proofs.Ytobolifgehagfaa

set_option linter.unusedVariables false
set_option linter.unusedSimpArgs false
set_option linter.unnecessarySimpa false
namespace Go.Proofs.Ytobolifgehagfaa
open Go Go.Den Go.Proofs
/-! Visits. -/
theorem foldV_append {σ : Type} (f : σ → It → σ × Bool) : ∀ (a b : List It) (s : σ), foldV f s (a ++ b) = if (foldV f s a).2 then foldV f (foldV f s a).1 b else ((foldV f s a).1, false)
  | [], b, s => by simp [foldV]
  | x :: a, b, s => by
    rw [List.cons_append, foldV, foldV]
    cases h : (f s x).2 with
    | true => simp only [if_true]; exact foldV_append f a b _
    | false => simp
structure Vis {σ : Type} (I : σ → Heap → Prop) (f : σ → It → σ × Bool) (nv : FV) (A : List It) (w : σ → Nat) (W : Nat) : Prop where
  wt : ∀ s it, w (f s it).1 ≤ w s + 1
  ext : ∀ s H H1, I s H → ExtH H H1 → I s H1
  call : ∀ s it H Q K, it ∈ A → w s < W → I s H → (∀ H1, I (f s it).1 H1 → K (.bool (f s it).2) H1) → callV Try.prog nv.v [pA it.r] H Q K
theorem foldV_w {σ : Type} {f : σ → It → σ × Bool} {w : σ → Nat} (wt : ∀ s it, w (f s it).1 ≤ w s + 1) : ∀ (l : List It) (s : σ), w (foldV f s l).1 ≤ w s + l.length
  | [], s => Nat.le_refl _
  | x :: l, s => by
    rw [foldV]
    have h := wt s x
    split
    · have := foldV_w wt l (f s x).1
      simp only [List.length_cons]; omega
    · simp only [List.length_cons]; omega
/-- What stands while a tree is visited. -/
structure Stand (H : Heap) (g : PH) (o : Int) (sr vb : Nat) (i j : IV) : Prop where
  b : Blk H sr senO
  g : PH.sub g (PH.of H)
  v : Blk H vb (.cells ⟨[i.v, j.v]⟩ 109)
theorem tail_b {b : Bool} {H : Heap} {Q : List PanicEntry → Heap → Prop} {K : Value → Heap → Prop} (k : K (.bool b) H) : iteB (!b) (retK K Q (.returned (.bool false)) H) (retK K Q (.returned (.bool true)) H) := by
  cases b <;> exact k
section
variable {σ : Type} {I : σ → Heap → Prop} {f : σ → It → σ × Bool} {nv : FV} {A : List It} {w : σ → Nat} {W : Nat} {g : PH} {o : Int} {sr vb tp : Nat} {i j : IV} {B E : EN}
theorem visit_ok (V : Vis I f nv A w W) (hi : IsG g o i B) (hj : IsG g o j E) (hS : ∀ s H, I s H → Stand H g o sr vb i j) : ∀ (t : Tr) (p : Nat), (∀ s H, I s H → TrH H g o sr p t) → (∀ it ∈ t.inL, it ∈ A) →
    ∀ (s : σ) (H : Heap) (Q : List PanicEntry → Heap → Prop) (K : Value → Heap → Prop), w s + (vis o B E t).length ≤ W → I s H → (∀ H1, I (foldV f s (vis o B E t)).1 H1 → K (.bool (foldV f s (vis o B E t)).2) H1) →
    callD Try.prog 161 [pA (t.ref sr), pA vb, pA sr, nv.v] H Q K := by
  intro t
  induction t with
  | nil =>
    intro p hT hA s H Q K hw hI k
    refine F161.calls ?_
    unfold F161.go
    refine pq_same ?_
    (repeat (first | (refine Step.go ?_; intros) | refine iteB_t (by decide) ?_ | refine iteB_f (by decide) ?_ | (refine Duo.mk (by first | omega | exact rfl | decide) ?_; intros) | (refine Duo.mk (Clo.mk (by kernel_rfl)) ?_; intros)))
    exact k H hI
  | node it c t u ih1 ih2 =>
    intro p hT hA s H Q K hw hI k
    have iht := ih1 it.r (fun s H h => (hT s H h).2.2.2.1) (fun x hx => hA x (by simp [Tr.inL, hx]))
    have ihu := ih2 it.r (fun s H h => (hT s H h).2.2.2.2) (fun x hx => hA x (by simp [Tr.inL, hx]))
    have hmem : it ∈ A := hA it (by simp [Tr.inL])
    refine F161.calls ?_
    unfold F161.go
    dsimp only [Tr.ref]
    obtain ⟨h1, h2, ⟨m, ⟨M', hm1, hm2⟩, h4⟩, h5, h6⟩ := hT s H hI
    obtain ⟨b2, hg, b3⟩ := hS s H hI
    refine pq_ne h2 h4.out b2.out ?_
    (repeat (first | (refine Step.go ?_; intros) | refine iteB_t (by decide) ?_ | refine iteB_f (by decide) ?_ | (refine Duo.mk (by first | omega | exact rfl | decide) ?_; intros) | (refine Duo.mk (Clo.mk (by kernel_rfl)) ?_; intros)))
    refine call_of (compareC b3 h4 rfl rfl rfl rfl (hi H hg) (hj H hg) (h1.1 H hg) (h1.2 H hg)) ?_
    rintro _ H1 ⟨rfl, E1⟩
    have I1 := V.ext s H H1 hI E1
    have h4' := h4.ext E1
    clear h4 h5 h6 b2 hg b3
    (repeat (first | (refine Step.go ?_; intros) | refine iteB_t (by decide) ?_ | refine iteB_f (by decide) ?_ | (refine Duo.mk (by first | omega | exact rfl | decide) ?_; intros) | (refine Duo.mk (Clo.mk (by kernel_rfl)) ?_; intros)))
    unfold vis at k hw
    refine iteB_i (fun h => ?_) (fun h => ?_)
    · rw [if_pos (of_decide_eq_true h)] at k hw
      (repeat (first | (refine Step.go ?_; intros) | refine iteB_t (by decide) ?_ | refine iteB_f (by decide) ?_ | (refine Duo.mk (by first | omega | exact rfl | decide) ?_; intros) | (refine Duo.mk (Clo.mk (by kernel_rfl)) ?_; intros)))
      refine iht s H1 _ _ hw I1 fun H2 I2 => ?_
      (repeat (first | (refine Step.go ?_; intros) | refine iteB_t (by decide) ?_ | refine iteB_f (by decide) ?_ | (refine Duo.mk (by first | omega | exact rfl | decide) ?_; intros) | (refine Duo.mk (Clo.mk (by kernel_rfl)) ?_; intros)))
      exact tail_b (k H2 I2)
    rw [if_neg (of_decide_eq_false h)] at k hw
    refine iteB_i (fun h' => ?_) (fun h' => ?_)
    · rw [if_pos (of_decide_eq_true h')] at k hw
      have S1 := Sat.start H1
      (repeat (first | (refine Step.go ?_; intros) | refine iteB_t (by decide) ?_ | refine iteB_f (by decide) ?_ | (refine Duo.mk (by first | omega | exact rfl | decide) ?_; intros) | (refine Duo.mk (Clo.mk (by kernel_rfl)) ?_; intros)))
      rename_i r _ _ _ _ H4 S4
      have E2 : ExtH H1 H4 := Sat.grown
      have I2 := V.ext s H1 H4 I1 E2
      obtain ⟨b2, hg, b3⟩ := hS s H4 I2
      refine call_of (compareC (a := r) ⟨S4.at_ (List.mem_cons_self ..)⟩ b3 rfl rfl rfl rfl (h1.1 H4 hg) (hm1 H4 hg) (hi H4 hg) (hj H4 hg)) ?_
      rintro _ H5 ⟨rfl, E3⟩
      have I3 := V.ext s H4 H5 I2 E3
      have h5' := (h4'.ext E2).ext E3
      have e : cmpI o it.B M' B E = cmpI o it.B (mx3 o it.E (t.mx o) (u.mx o)) B E := by
        unfold cmpI
        rw [show cmpE o M' B = cmpE o (mx3 o it.E (t.mx o) (u.mx o)) B from by unfold cmpE; rw [hm2.lt_l, hm2.lt_r]]
      rw [e]
      (repeat (first | (refine Step.go ?_; intros) | refine iteB_t (by decide) ?_ | refine iteB_f (by decide) ?_ | (refine Duo.mk (by first | omega | exact rfl | decide) ?_; intros) | (refine Duo.mk (Clo.mk (by kernel_rfl)) ?_; intros)))
      refine iteB_i (fun h7 => ?_) (fun h7 => ?_)
      · rw [if_pos (eq_of_beq h7), foldV_append] at k
        rw [if_pos (eq_of_beq h7), List.length_append] at hw
        have hw1 := foldV_w (f := f) V.wt (vis o B E t) s
        (repeat (first | (refine Step.go ?_; intros) | refine iteB_t (by decide) ?_ | refine iteB_f (by decide) ?_ | (refine Duo.mk (by first | omega | exact rfl | decide) ?_; intros) | (refine Duo.mk (Clo.mk (by kernel_rfl)) ?_; intros)))
        refine iht s H5 _ _ (by omega) I3 fun H6 I6 => ?_
        (repeat (first | (refine Step.go ?_; intros) | refine iteB_t (by decide) ?_ | refine iteB_f (by decide) ?_ | (refine Duo.mk (by first | omega | exact rfl | decide) ?_; intros) | (refine Duo.mk (Clo.mk (by kernel_rfl)) ?_; intros)))
        cases hb : (foldV f s (vis o B E t)).2 with
        | false =>
          rw [hb, if_neg (by simp)] at k
          exact k H6 I6
        | true =>
          rw [hb, if_pos rfl] at k
          refine iteB_f rfl ?_
          obtain ⟨_, _, ⟨m3, _, h43⟩, _, _⟩ := hT _ H6 I6
          (repeat (first | (refine Step.go ?_; intros) | refine iteB_t (by decide) ?_ | refine iteB_f (by decide) ?_ | (refine Duo.mk (by first | omega | exact rfl | decide) ?_; intros) | (refine Duo.mk (Clo.mk (by kernel_rfl)) ?_; intros)))
          refine ihu _ H6 _ _ (by omega) I6 fun H7 I7 => ?_
          (repeat (first | (refine Step.go ?_; intros) | refine iteB_t (by decide) ?_ | refine iteB_f (by decide) ?_ | (refine Duo.mk (by first | omega | exact rfl | decide) ?_; intros) | (refine Duo.mk (Clo.mk (by kernel_rfl)) ?_; intros)))
          exact tail_b (k H7 I7)
      · rw [if_neg (by simpa using h7)] at k
        exact k H5 I3
    · rw [if_neg (of_decide_eq_false h')] at k hw
      rw [foldV_append] at k
      rw [List.length_append, List.length_cons] at hw
      have hw1 := foldV_w (f := f) V.wt (vis o B E t) s
      have hw2 := V.wt (foldV f s (vis o B E t)).1 it
      (repeat (first | (refine Step.go ?_; intros) | refine iteB_t (by decide) ?_ | refine iteB_f (by decide) ?_ | (refine Duo.mk (by first | omega | exact rfl | decide) ?_; intros) | (refine Duo.mk (Clo.mk (by kernel_rfl)) ?_; intros)))
      refine iht s H1 _ _ (by omega) I1 fun H2 I2 => ?_
      (repeat (first | (refine Step.go ?_; intros) | refine iteB_t (by decide) ?_ | refine iteB_f (by decide) ?_ | (refine Duo.mk (by first | omega | exact rfl | decide) ?_; intros) | (refine Duo.mk (Clo.mk (by kernel_rfl)) ?_; intros)))
      cases hb : (foldV f s (vis o B E t)).2 with
      | false =>
        rw [hb, if_neg (by simp)] at k
        exact k H2 I2
      | true =>
        rw [hb, if_pos rfl, foldV] at k
        refine iteB_f rfl ?_
        refine V.call _ it H2 _ _ hmem (by omega) I2 fun H3 I3 => ?_
        (repeat (first | (refine Step.go ?_; intros) | refine iteB_t (by decide) ?_ | refine iteB_f (by decide) ?_ | (refine Duo.mk (by first | omega | exact rfl | decide) ?_; intros) | (refine Duo.mk (Clo.mk (by kernel_rfl)) ?_; intros)))
        cases hc : (f (foldV f s (vis o B E t)).1 it).2 with
        | false =>
          rw [hc, if_neg (by simp)] at k
          exact k H3 I3
        | true =>
          rw [hc, if_pos rfl] at k
          refine iteB_f rfl ?_
          obtain ⟨_, _, ⟨m3, _, h43⟩, _, _⟩ := hT _ H3 I3
          (repeat (first | (refine Step.go ?_; intros) | refine iteB_t (by decide) ?_ | refine iteB_f (by decide) ?_ | (refine Duo.mk (by first | omega | exact rfl | decide) ?_; intros) | (refine Duo.mk (Clo.mk (by kernel_rfl)) ?_; intros)))
          refine ihu _ H3 _ _ (by omega) I3 fun H4 I4 => ?_
          (repeat (first | (refine Step.go ?_; intros) | refine iteB_t (by decide) ?_ | refine iteB_f (by decide) ?_ | (refine Duo.mk (by first | omega | exact rfl | decide) ?_; intros) | (refine Duo.mk (Clo.mk (by kernel_rfl)) ?_; intros)))
          exact tail_b (k H4 I4)
/-- Visits, with memory beside them. -/
structure VisJ {σ : Type} (J : σ → List HP → Heap → Prop) (f : σ → It → σ × Bool) (nv : FV) (A : List It) (w : σ → Nat) (W : Nat) : Prop where
  wt : ∀ s it, w (f s it).1 ≤ w s + 1
  grow : ∀ s l m H H1, J s l H → Sat H1 (m ++ [Den.old H]) → J s (m ++ l) H1
  sat : ∀ s l H, J s l H → Sat H l
  drop : ∀ s m l H, J s (m ++ l) H → J s l H
  call : ∀ s l it H Q K, it ∈ A → w s < W → J s l H → (∀ H1, J (f s it).1 l H1 → K (.bool (f s it).2) H1) → callV Try.prog nv.v [pA it.r] H Q K
theorem VisJ.ext {J : σ → List HP → Heap → Prop} (V : VisJ J f nv A w W) {s : σ} {l : List HP} {H H1 : Heap} (h : J s l H) (e : ExtH H H1) : J s l H1 :=
  V.grow s l [] H H1 h (Sat.ext (Sat.start H) e)
/-- What stands in each state. -/
structure StandT (H : Heap) (g : PH) (o : Int) (sr tp : Nat) (n : Int) (T : Tr) : Prop where
  t : TrH H g o sr sr T
  r : Blk H tp (treO (T.ref sr) n sr)
  b : Blk H sr senO
  g : PH.sub g (PH.of H)
theorem StandT.ext {H H1 : Heap} {n : Int} {T : Tr} (h : StandT H g o sr tp n T) (e : ExtH H H1) : StandT H1 g o sr tp n T := ⟨h.t.ext e, h.r.ext e, h.b.ext e, subExt h.g e⟩
theorem Visit_ok {J : σ → List HP → Heap → Prop} {T : Tr} {n : Int} {Q : List PanicEntry → Heap → Prop} {K : Value → Heap → Prop} (V : VisJ J f nv T.inL w W) (hi : IsG g o i B) (hj : IsG g o j E) (hS : ∀ s l H, J s l H → StandT H g o sr tp n T)
    {s : σ} {l : List HP} {H : Heap} (hw : w s + (vis o B E T).length ≤ W) (h0 : J s l H) (k : ∀ H1, J (foldV f s (vis o B E T)).1 l H1 → K (.tuple ⟨[]⟩) H1) :
    callD Try.prog 148 [pA tp, .agg ⟨[i.v, j.v]⟩, nv.v] H Q K := by
  refine F148.calls (ivl_0 := i) (ivl_1 := j) (ivv := nv) ?_
  unfold F148.go
  have S := Sat.start H
  (repeat (first | (refine Step.go ?_; intros) | refine iteB_t (by decide) ?_ | refine iteB_f (by decide) ?_ | (refine Duo.mk (by first | omega | exact rfl | decide) ?_; intros) | (refine Duo.mk (Clo.mk (by kernel_rfl)) ?_; intros)))
  rw [isCell_FV]
  (repeat (first | (refine Step.go ?_; intros) | refine iteB_t (by decide) ?_ | refine iteB_f (by decide) ?_ | (refine Duo.mk (by first | omega | exact rfl | decide) ?_; intros) | (refine Duo.mk (Clo.mk (by kernel_rfl)) ?_; intros)))
  rename_i r H1 S1 r1 H2 S2
  obtain ⟨t1, t2, t3, t4⟩ := hS s l H h0
  have E2 : ExtH H H2 := Sat.grown
  have t2' := t2.ext E2
  (repeat (first | (refine Step.go ?_; intros) | refine iteB_t (by decide) ?_ | refine iteB_f (by decide) ?_ | (refine Duo.mk (by first | omega | exact rfl | decide) ?_; intros) | (refine Duo.mk (Clo.mk (by kernel_rfl)) ?_; intros)))
  have J2 : J s ([pt r1 (.cells ⟨[nv.v]⟩ 283), pt r (.cells ⟨[i.v, j.v]⟩ 109)] ++ l) H2 := V.grow s l _ H H2 h0 S2
  have V2 : Vis (fun s H => J s ([pt r1 (.cells ⟨[nv.v]⟩ 283), pt r (.cells ⟨[i.v, j.v]⟩ 109)] ++ l) H) f (.mk (.func 162) ⟨[]⟩ ⟨[pA r1]⟩) T.inL w W := by
    refine ⟨V.wt, fun s H H1 h e => V.ext h e, fun s it H Q K hit hw h k => ?_⟩
    have S := V.sat _ _ _ h
    refine Step.go (Duo.mk (Clo.mk (by kernel_rfl)) ?_)
    refine F162.calls ?_
    unfold F162.go
    simp only [List.cons_append, List.nil_append] at S
    (repeat (first | (refine Step.go ?_; intros) | refine iteB_t (by decide) ?_ | refine iteB_f (by decide) ?_ | (refine Duo.mk (by first | omega | exact rfl | decide) ?_; intros) | (refine Duo.mk (Clo.mk (by kernel_rfl)) ?_; intros)))
    refine V.call _ _ it _ _ _ hit hw h fun H1 h1 => ?_
    (repeat (first | (refine Step.go ?_; intros) | refine iteB_t (by decide) ?_ | refine iteB_f (by decide) ?_ | (refine Duo.mk (by first | omega | exact rfl | decide) ?_; intros) | (refine Duo.mk (Clo.mk (by kernel_rfl)) ?_; intros)))
    exact k H1 h1
  refine visit_ok (vb := r) V2 hi hj (fun s H h => ?_) T sr (fun s H h => (hS s _ H h).t) (fun _ h => h) s H2 _ _ hw J2 fun H3 J3 => ?_
  · have S := V.sat _ _ _ h
    have t := hS s _ H h
    exact ⟨t.b, t.g, ⟨S.at_ (by simp)⟩⟩
  · (repeat (first | (refine Step.go ?_; intros) | refine iteB_t (by decide) ?_ | refine iteB_f (by decide) ?_ | (refine Duo.mk (by first | omega | exact rfl | decide) ?_; intros) | (refine Duo.mk (Clo.mk (by kernel_rfl)) ?_; intros)))
    exact k H3 (V.drop _ _ _ _ J3)
end
end Go.Proofs.Ytobolifgehagfaa

set_option linter.unusedVariables false
set_option linter.unusedSimpArgs false
set_option linter.unnecessarySimpa false
namespace Go.Proofs.Ytobolifgehagfaa
open Go Go.Den Go.Proofs
/-! What an interval meets. -/
abbrev ptrs (it : It) : List Value := [pA it.r]
def addF : List It → It → List It × Bool := fun s it => (s ++ [it], true)
theorem foldV_add : ∀ (l s : List It), foldV addF s l = (s ++ l, true)
  | [], s => by simp [foldV]
  | x :: l, s => by
    show foldV addF (s ++ [x]) l = _
    rw [foldV_add l]
    simp
section
variable {H : Heap} {l : List HP} {g : PH} {o : Int} {sr b tp : Nat} {T : Tr} {n : Int} {i j : IV} {B E : EN}
/-- The state while Stab gathers. -/
def StabJ (g : PH) (o : Int) (sr tp : Nat) (n : Int) (T : Tr) (r1 : Nat) (s : List It) (l : List HP) (H : Heap) : Prop :=
  ∃ p c, Sat H (pt r1 (.cells ⟨[.slice p s.length c]⟩ 144) :: sl ptrs 111 1 p s.length c s :: tr g o sr sr T :: pt tp (treO (T.ref sr) n sr) :: pt sr senO :: has g :: l)
theorem stab_vis {r1 : Nat} : VisJ (StabJ g o sr tp n T r1) addF (.mk (.func 159) ⟨[]⟩ ⟨[pA r1]⟩) T.inL List.length 1000000 := by
  refine ⟨fun s it => by simp [addF], ?_, ?_, ?_, ?_⟩
  · rintro s l m H H1 ⟨p, c, S⟩ S1
    refine ⟨p, c, (S1.onto S).to ?_⟩
    refine fun k x => SatP.perm ?_ x
    have := (List.perm_append_comm (l₁ := m) (l₂ := [pt r1 (.cells ⟨[.slice p s.length c]⟩ 144), sl ptrs 111 1 p s.length c s, tr g o sr sr T, pt tp (treO (T.ref sr) n sr), pt sr senO, has g])).append_right l
    simpa using this
  · rintro s l H ⟨p, c, S⟩
    exact S.to (Ent.drop (Ent.drop (Ent.drop (Ent.drop (Ent.drop (Ent.drop .refl))))))
  · rintro s m l H ⟨p, c, S⟩
    refine ⟨p, c, S.to ?_⟩
    refine Ent.cons (Ent.cons (Ent.cons (Ent.cons (Ent.cons (Ent.cons ?_)))))
    intro k x
    obtain ⟨h, _, _, y⟩ := star_in x
    exact y.mono PH.minus_sub
  · rintro s l it H Q K hit hw ⟨p, c, S⟩ k
    refine Step.go (Duo.mk (Clo.mk (by kernel_rfl)) ?_)
    refine F159.calls ?_
    unfold F159.go
    (repeat (first | (refine Step.go ?_; intros) | refine iteB_t (by decide) ?_ | refine iteB_f (by decide) ?_ | (refine Duo.mk (by first | omega | exact rfl | decide) ?_; intros) | (refine Duo.mk (Clo.mk (by kernel_rfl)) ?_; intros)))
    rename_i r H1 S1
    have S2 := S1.bring (c := sl ptrs 111 1 p s.length c s) (by (repeat (first | exact Sel.here | apply Sel.there)))
    refine S2.slApp (ys := [it]) (q := some ⟨r, 0, none⟩) (d := 1) ?_ rfl (by simp) (by simp [isCell]) rfl (by decide) (by omega) ?_
    · intro j v hj
      refine ⟨_, rfl, ?_⟩
      have : hcell H1 (aA r) = some (pA it.r) := hcell_of (S1.at_ (List.mem_cons_self ..)) rfl
      match j, hj with
      | 0, hj => simp at hj; subst hj; exact this
      | j + 1, hj => simp at hj
    · intro p' c' H2 S3
      (repeat (first | (refine Step.go ?_; intros) | refine iteB_t (by decide) ?_ | refine iteB_f (by decide) ?_ | (refine Duo.mk (by first | omega | exact rfl | decide) ?_; intros) | (refine Duo.mk (Clo.mk (by kernel_rfl)) ?_; intros)))
      rename_i H3 S4
      refine k H3 ⟨p', c', ?_⟩
      have e : (addF s it).1.length = s.length + 1 := by simp [addF]
      rw [e]
      refine S4.to ?_
      iterate 6 (apply Ent.pick; (focus (repeat (first | exact Sel.here | apply Sel.there))))
      exact Ent.drop Ent.refl
theorem vis_le : ∀ T : Tr, (vis o B E T).length ≤ T.inL.length
  | .nil => Nat.le_refl _
  | .node it c t u => by
    have h1 := vis_le t
    have h2 := vis_le u
    unfold vis
    simp only [Tr.inL, List.length_append, List.length_cons]
    split
    · omega
    · split
      · split
        · rw [List.length_append]; omega
        · simp
      · rw [List.length_append, List.length_cons]; omega
theorem standT (S : Sat H l) {m r1 r2 r3 : List HP} (s1 : Sel (tr g o sr sr T) l m) (s2 : Sel (pt tp (treO (T.ref sr) n sr)) l r1) (s3 : Sel (pt sr senO) l r2) (s4 : Sel (has g) l r3) : StandT H g o sr tp n T :=
  ⟨trH_of (S.bring s1), ⟨S.at_ (s2.perm.mem_iff.2 (List.mem_cons_self ..))⟩, ⟨S.at_ (s3.perm.mem_iff.2 (List.mem_cons_self ..))⟩, HasG.sub ⟨s4.perm.mem_iff.2 (List.mem_cons_self ..)⟩ S⟩
theorem Stab_ok (hi : IsG g o i B) (hj : IsG g o j E) (hn : n = (T.inL.length : Int)) (hl : T.inL.length ≤ 1000000) (S : Sat H (tr g o sr sr T :: pt tp (treO (T.ref sr) n sr) :: pt sr senO :: has g :: l)) :
    CallsH Try.prog 146 ⟨[pA tp, .agg ⟨[i.v, j.v]⟩]⟩ H (fun e H1 => ∃ p c, e = .returned (.slice p (vis o B E T).length c) ∧ Sat H1 (sl ptrs 111 1 p (vis o B E T).length c (vis o B E T) :: tr g o sr sr T :: pt tp (treO (T.ref sr) n sr) :: pt sr senO :: has g :: l)) := by
  refine F146.calls (iv_0 := i) (iv_1 := j) ?_
  unfold F146.go
  (repeat (first | (refine Step.go ?_; intros) | refine iteB_t (by decide) ?_ | refine iteB_f (by decide) ?_ | (refine Duo.mk (by first | omega | exact rfl | decide) ?_; intros) | (refine Duo.mk (Clo.mk (by kernel_rfl)) ?_; intros)))
  rename_i r H1 S1 r1 H2 S2
  refine iteB_i (fun h => ?_) (fun h => ?_)
  · have h := eq_of_beq h
    have hv : vis o B E T = [] := List.eq_nil_of_length_eq_zero (by have := vis_le (o := o) (B := B) (E := E) T; omega)
    rw [hv]
    (repeat (first | (refine Step.go ?_; intros) | refine iteB_t (by decide) ?_ | refine iteB_f (by decide) ?_ | (refine Duo.mk (by first | omega | exact rfl | decide) ?_; intros) | (refine Duo.mk (Clo.mk (by kernel_rfl)) ?_; intros)))
    rename_i H3 S3
    refine ⟨none, 0, rfl, S3.to (Ent.slNil ?_)⟩
    iterate 4 (apply Ent.pick; (focus (repeat (first | exact Sel.here | apply Sel.there))))
    exact Ent.drop (Ent.drop Ent.refl)
  · (repeat (first | (refine Step.go ?_; intros) | refine iteB_t (by decide) ?_ | refine iteB_f (by decide) ?_ | (refine Duo.mk (by first | omega | exact rfl | decide) ?_; intros) | (refine Duo.mk (Clo.mk (by kernel_rfl)) ?_; intros)))
    have J0 : StabJ g o sr tp n T r1 [] (pt r (.cells ⟨[i.v, j.v]⟩ 109) :: l) H2 := by
      refine ⟨none, 0, S2.to ?_⟩
      apply Ent.pick
      · (repeat (first | exact Sel.here | apply Sel.there))
      refine Ent.slNil ?_
      iterate 5 (apply Ent.pick; (focus (repeat (first | exact Sel.here | apply Sel.there))))
      exact Ent.refl
    refine Visit_ok (g := g) (o := o) (sr := sr) (n := n) (T := T) (nv := .mk (.func 159) ⟨[]⟩ ⟨[pA r1]⟩) stab_vis hi hj ?_ ?_ J0 ?_
    · rintro s l H ⟨p, c, S⟩
      exact standT S (by (repeat (first | exact Sel.here | apply Sel.there))) (by (repeat (first | exact Sel.here | apply Sel.there))) (by (repeat (first | exact Sel.here | apply Sel.there))) (by (repeat (first | exact Sel.here | apply Sel.there)))
    · have := vis_le (o := o) (B := B) (E := E) T
      simp; omega
    · rintro H3 ⟨p, c, S3⟩
      rw [foldV_add] at S3
      simp only [List.nil_append] at S3
      (repeat (first | (refine Step.go ?_; intros) | refine iteB_t (by decide) ?_ | refine iteB_f (by decide) ?_ | (refine Duo.mk (by first | omega | exact rfl | decide) ?_; intros) | (refine Duo.mk (Clo.mk (by kernel_rfl)) ?_; intros)))
      rename_i H4 S4
      refine ⟨p, c, rfl, S4.to ?_⟩
      iterate 5 (apply Ent.pick; (focus (repeat (first | exact Sel.here | apply Sel.there))))
      exact Ent.drop (Ent.drop Ent.refl)
end
end Go.Proofs.Ytobolifgehagfaa

set_option linter.unusedVariables false
set_option linter.unusedSimpArgs false
set_option linter.unnecessarySimpa false
namespace Go.Proofs.Ytobolifgehagfaa
open Go Go.Den Go.Proofs
/-! Whether a tree contains an interval. -/
section
variable {H : Heap} {l : List HP} {g : PH} {o : Int} {sr b tp : Nat} {T : Tr} {n : Int} {i j : IV} {B E : EN}
/-- What the two variables hold. -/
def ConV (g : PH) (o : Int) (im ie : IV) : Option (EN × EN) → Prop
  | none => im = .nil ∧ ie = .nil
  | some (mb, me) => IsG g o im mb ∧ IsG g o ie me
def ConJ (g : PH) (o : Int) (sr tp : Nat) (n : Int) (T : Tr) (r1 r2 r3 : Nat) (s : Option (EN × EN) × Bool) (l : List HP) (H : Heap) : Prop :=
  ∃ im ie, ConV g o im ie s.1 ∧ Sat H (pt r2 (.cells ⟨[IV.v im]⟩ 107) :: pt r1 (.cells ⟨[IV.v ie]⟩ 107) :: pt r3 (.cells ⟨[.bool s.2]⟩ 4) :: tr g o sr sr T :: pt tp (treO (T.ref sr) n sr) :: pt sr senO :: has g :: l)
theorem ifNil_nil {k : Bool → Prop} (h : k true) : ifNilD (IV.v .nil) k := h
theorem nilM_E {i : IV} {x : EN} {k : Prop} (h : IsE H o i x) (hk : k) : nilM Try.prog "Compare" ⟨[IV.v i]⟩ k := by
  cases h with
  | str => exact ⟨by kernel_rfl, hk⟩
  | aff => exact ⟨by kernel_rfl, hk⟩
  | byt _ _ => exact ⟨by kernel_rfl, hk⟩
  | num _ => exact ⟨by kernel_rfl, hk⟩
theorem ifNil_mk {t : TypeId} {x : Value} {k : Bool → Prop} (h : k false) : ifNilD (IV.v (.mk t x)) k := h
theorem con_vis {r1 r2 r3 : Nat} : VisJ (ConJ g o sr tp n T r1 r2 r3) (conF o) (.mk (.func 149) ⟨[]⟩ ⟨[pA r2, pA r1, pA r3]⟩) T.inL (fun _ => 0) 1000001 := by
  refine ⟨fun s it => by simp, ?_, ?_, ?_, ?_⟩
  · rintro s l m H H1 ⟨im, ie, hv, S⟩ S1
    refine ⟨im, ie, hv, (S1.onto S).to ?_⟩
    refine fun k x => SatP.perm ?_ x
    have := (List.perm_append_comm (l₁ := m) (l₂ := [pt r2 (.cells ⟨[IV.v im]⟩ 107), pt r1 (.cells ⟨[IV.v ie]⟩ 107), pt r3 (.cells ⟨[.bool s.2]⟩ 4), tr g o sr sr T, pt tp (treO (T.ref sr) n sr), pt sr senO, has g])).append_right l
    simpa using this
  · rintro s l H ⟨im, ie, hv, S⟩
    exact S.to (Ent.drop (Ent.drop (Ent.drop (Ent.drop (Ent.drop (Ent.drop (Ent.drop .refl)))))))
  · rintro s m l H ⟨im, ie, hv, S⟩
    refine ⟨im, ie, hv, S.to ?_⟩
    refine Ent.cons (Ent.cons (Ent.cons (Ent.cons (Ent.cons (Ent.cons (Ent.cons ?_))))))
    intro k x
    obtain ⟨h, _, _, y⟩ := star_in x
    exact y.mono PH.minus_sub
  · rintro ⟨s, bs⟩ l it H Q K hit hw ⟨im, ie, hv, S⟩ k
    have hT : TrH H g o sr sr T := trH_of (S.bring (c := tr g o sr sr T) (by (repeat (first | exact Sel.here | apply Sel.there))))
    obtain ⟨hO, hne, m0, x0, y0, p0, c0, hB⟩ := hT.mem hit
    refine Step.go (Duo.mk (Clo.mk (by kernel_rfl)) ?_)
    refine F149.calls ?_
    unfold F149.go
    cases s with
    | none =>
      obtain ⟨rfl, rfl⟩ := hv
      (repeat (first | (refine Step.go ?_; intros) | refine iteB_t (by decide) ?_ | refine iteB_f (by decide) ?_ | (refine Duo.mk (by first | omega | exact rfl | decide) ?_; intros) | (refine Duo.mk (Clo.mk (by kernel_rfl)) ?_; intros)))
      refine ifNil_nil ?_
      (repeat (first | (refine Step.go ?_; intros) | refine iteB_t (by decide) ?_ | refine iteB_f (by decide) ?_ | (refine Duo.mk (by first | omega | exact rfl | decide) ?_; intros) | (refine Duo.mk (Clo.mk (by kernel_rfl)) ?_; intros)))
      rename_i H1 S1
      have hT1 : TrH H1 g o sr sr T := trH_of (S1.bring (c := tr g o sr sr T) (by (repeat (first | exact Sel.here | apply Sel.there))))
      obtain ⟨_, _, m1, x1, y1, p1, c1, hB1⟩ := hT1.mem hit
      (repeat (first | (refine Step.go ?_; intros) | refine iteB_t (by decide) ?_ | refine iteB_f (by decide) ?_ | (refine Duo.mk (by first | omega | exact rfl | decide) ?_; intros) | (refine Duo.mk (Clo.mk (by kernel_rfl)) ?_; intros)))
      rename_i H2 S2
      refine k H2 ⟨it.i, it.j, ⟨hO.1, hO.2⟩, S2⟩
    | some q =>
      obtain ⟨mb, me⟩ := q
      obtain ⟨v1, v2⟩ := hv
      obtain ⟨ti, xi, rfl⟩ := v1.mk S
      (repeat (first | (refine Step.go ?_; intros) | refine iteB_t (by decide) ?_ | refine iteB_f (by decide) ?_ | (refine Duo.mk (by first | omega | exact rfl | decide) ?_; intros) | (refine Duo.mk (Clo.mk (by kernel_rfl)) ?_; intros)))
      refine ifNil_mk ?_
      refine iteB_f rfl ?_
      (repeat (first | (refine Step.go ?_; intros) | refine iteB_t (by decide) ?_ | refine iteB_f (by decide) ?_ | (refine Duo.mk (by first | omega | exact rfl | decide) ?_; intros) | (refine Duo.mk (Clo.mk (by kernel_rfl)) ?_; intros)))
      refine nilM_E (v2 H (HasG.sub (l := pt r2 (.cells ⟨[IV.v (.mk ti xi)]⟩ 107) :: pt r1 (.cells ⟨[IV.v ie]⟩ 107) :: pt r3 (.cells ⟨[.bool bs]⟩ 4) :: tr g o sr sr T :: pt tp (treO (T.ref sr) n sr) :: pt sr senO :: has g :: l) inferInstance S)) ?_
      (repeat (first | (refine Step.go ?_; intros) | refine iteB_t (by decide) ?_ | refine iteB_f (by decide) ?_ | (refine Duo.mk (by first | omega | exact rfl | decide) ?_; intros) | (refine Duo.mk (Clo.mk (by kernel_rfl)) ?_; intros)))
      refine cmpG S v2 hO.1 fun H1 S1 => ?_
      (repeat (first | (refine Step.go ?_; intros) | refine iteB_t (by decide) ?_ | refine iteB_f (by decide) ?_ | (refine Duo.mk (by first | omega | exact rfl | decide) ?_; intros) | (refine Duo.mk (Clo.mk (by kernel_rfl)) ?_; intros)))
      rw [cmpE_neg]
      cases hlt : ltE o me it.B with
      | true =>
        refine iteB_t rfl ?_
        (repeat (first | (refine Step.go ?_; intros) | refine iteB_t (by decide) ?_ | refine iteB_f (by decide) ?_ | (refine Duo.mk (by first | omega | exact rfl | decide) ?_; intros) | (refine Duo.mk (Clo.mk (by kernel_rfl)) ?_; intros)))
        rename_i H2 S2
        have hf : conF o (some (mb, me), bs) it = ((some (mb, me), false), false) := if_pos hlt
        rw [hf] at k
        exact k H2 ⟨_, ie, ⟨v1, v2⟩, S2⟩
      | false =>
        refine iteB_f rfl ?_
        have hf : conF o (some (mb, me), bs) it = ((some (mb, if ltE o me it.E then it.E else me), bs), true) := if_neg (by rw [hlt]; simp)
        rw [hf] at k
        have hT1 : TrH H1 g o sr sr T := trH_of (S1.bring (c := tr g o sr sr T) (by (repeat (first | exact Sel.here | apply Sel.there))))
        obtain ⟨_, _, m1, x1, y1, p1, c1, hB1⟩ := hT1.mem hit
        (repeat (first | (refine Step.go ?_; intros) | refine iteB_t (by decide) ?_ | refine iteB_f (by decide) ?_ | (refine Duo.mk (by first | omega | exact rfl | decide) ?_; intros) | (refine Duo.mk (Clo.mk (by kernel_rfl)) ?_; intros)))
        refine cmpG S1 hO.2 v2 fun H2 S2 => ?_
        (repeat (first | (refine Step.go ?_; intros) | refine iteB_t (by decide) ?_ | refine iteB_f (by decide) ?_ | (refine Duo.mk (by first | omega | exact rfl | decide) ?_; intros) | (refine Duo.mk (Clo.mk (by kernel_rfl)) ?_; intros)))
        rw [cmpE_pos]
        refine iteB_i (fun h => ?_) (fun h => ?_)
        · rw [if_pos h] at k
          have hT2 : TrH H2 g o sr sr T := trH_of (S2.bring (c := tr g o sr sr T) (by (repeat (first | exact Sel.here | apply Sel.there))))
          obtain ⟨_, _, m2, x2, y2, p2, c2, hB2⟩ := hT2.mem hit
          (repeat (first | (refine Step.go ?_; intros) | refine iteB_t (by decide) ?_ | refine iteB_f (by decide) ?_ | (refine Duo.mk (by first | omega | exact rfl | decide) ?_; intros) | (refine Duo.mk (Clo.mk (by kernel_rfl)) ?_; intros)))
          rename_i H3 S3
          exact k H3 ⟨_, it.j, ⟨v1, hO.2⟩, S3⟩
        · rw [if_neg (by rw [h]; simp)] at k
          exact k H2 ⟨_, ie, ⟨v1, v2⟩, S2⟩
theorem Contains_ok (hi : IsG g o i B) (hj : IsG g o j E) (hl : T.inL.length ≤ 1000000) (S : Sat H (tr g o sr sr T :: pt tp (treO (T.ref sr) n sr) :: pt sr senO :: has g :: l)) :
    CallsH Try.prog 138 ⟨[pA tp, .agg ⟨[i.v, j.v]⟩]⟩ H (fun e H1 => e = .returned (.bool (conR o B E (foldV (conF o) (none, true) (vis o B E T)).1)) ∧ Sat H1 (tr g o sr sr T :: pt tp (treO (T.ref sr) n sr) :: pt sr senO :: has g :: l)) := by
  refine F138.calls (ivl_0 := i) (ivl_1 := j) ?_
  unfold F138.go
  (repeat (first | (refine Step.go ?_; intros) | refine iteB_t (by decide) ?_ | refine iteB_f (by decide) ?_ | (refine Duo.mk (by first | omega | exact rfl | decide) ?_; intros) | (refine Duo.mk (Clo.mk (by kernel_rfl)) ?_; intros)))
  rename_i r H1 S1 r1 H2 S2 r2 H3 S3 r3 H4 S4 H5 S5
  have J0 : ConJ g o sr tp n T r1 r2 r3 (none, true) (pt r (.cells ⟨[i.v, j.v]⟩ 109) :: l) H5 := by
    refine ⟨.nil, .nil, ⟨rfl, rfl⟩, S5.to ?_⟩
    iterate 8 (apply Ent.pick; (focus (repeat (first | exact Sel.here | apply Sel.there))))
    exact Ent.refl
  refine Visit_ok (g := g) (o := o) (sr := sr) (n := n) (T := T) (nv := .mk (.func 149) ⟨[]⟩ ⟨[pA r2, pA r1, pA r3]⟩) con_vis hi hj ?_ ?_ J0 ?_
  · rintro s l H ⟨im, ie, hv, S⟩
    exact standT S (by (repeat (first | exact Sel.here | apply Sel.there))) (by (repeat (first | exact Sel.here | apply Sel.there))) (by (repeat (first | exact Sel.here | apply Sel.there))) (by (repeat (first | exact Sel.here | apply Sel.there)))
  · have := vis_le (o := o) (B := B) (E := E) T
    simp; omega
  · rintro H6 ⟨im, ie, hv, S6⟩
    generalize hq : (foldV (conF o) (none, true) (vis o B E T)).1 = q at hv S6 ⊢
    obtain ⟨q, bs⟩ := q
    have out : ∀ H, Sat H (pt r2 (.cells ⟨[IV.v im]⟩ 107) :: pt r1 (.cells ⟨[IV.v ie]⟩ 107) :: pt r3 (.cells ⟨[.bool bs]⟩ 4) :: tr g o sr sr T :: pt tp (treO (T.ref sr) n sr) :: pt sr senO :: has g :: pt r (.cells ⟨[i.v, j.v]⟩ 109) :: l) → Sat H (tr g o sr sr T :: pt tp (treO (T.ref sr) n sr) :: pt sr senO :: has g :: l) := by
      intro H S
      refine S.to ?_
      iterate 4 (apply Ent.pick; (focus (repeat (first | exact Sel.here | apply Sel.there))))
      exact Ent.drop (Ent.drop (Ent.drop (Ent.drop Ent.refl)))
    (repeat (first | (refine Step.go ?_; intros) | refine iteB_t (by decide) ?_ | refine iteB_f (by decide) ?_ | (refine Duo.mk (by first | omega | exact rfl | decide) ?_; intros) | (refine Duo.mk (Clo.mk (by kernel_rfl)) ?_; intros)))
    cases bs with
    | false =>
      refine iteB_f rfl ?_
      refine ⟨?_, out H6 S6⟩
      cases q <;> rfl
    | true =>
      refine iteB_t rfl ?_
      (repeat (first | (refine Step.go ?_; intros) | refine iteB_t (by decide) ?_ | refine iteB_f (by decide) ?_ | (refine Duo.mk (by first | omega | exact rfl | decide) ?_; intros) | (refine Duo.mk (Clo.mk (by kernel_rfl)) ?_; intros)))
      cases q with
      | none =>
        obtain ⟨rfl, rfl⟩ := hv
        refine ifNil_nil ?_
        (repeat (first | (refine Step.go ?_; intros) | refine iteB_t (by decide) ?_ | refine iteB_f (by decide) ?_ | (refine Duo.mk (by first | omega | exact rfl | decide) ?_; intros) | (refine Duo.mk (Clo.mk (by kernel_rfl)) ?_; intros)))
        exact ⟨rfl, out H6 S6⟩
      | some q =>
        obtain ⟨mb, me⟩ := q
        obtain ⟨v1, v2⟩ := hv
        obtain ⟨ti, xi, hti⟩ := v1.mk S6
        subst hti
        refine ifNil_mk ?_
        refine iteB_t rfl ?_
        (repeat (first | (refine Step.go ?_; intros) | refine iteB_t (by decide) ?_ | refine iteB_f (by decide) ?_ | (refine Duo.mk (by first | omega | exact rfl | decide) ?_; intros) | (refine Duo.mk (Clo.mk (by kernel_rfl)) ?_; intros)))
        refine cmpG S6 v2 hj fun H7 S7 => ?_
        (repeat (first | (refine Step.go ?_; intros) | refine iteB_t (by decide) ?_ | refine iteB_f (by decide) ?_ | (refine Duo.mk (by first | omega | exact rfl | decide) ?_; intros) | (refine Duo.mk (Clo.mk (by kernel_rfl)) ?_; intros)))
        have e : decide (cmpE o me E ≥ 0) = !ltE o me E := by
          rw [← cmpE_neg, Bool.eq_iff_iff]; simp
        rw [e]
        refine iteB_i (fun h => ?_) (fun h => ?_)
        · (repeat (first | (refine Step.go ?_; intros) | refine iteB_t (by decide) ?_ | refine iteB_f (by decide) ?_ | (refine Duo.mk (by first | omega | exact rfl | decide) ?_; intros) | (refine Duo.mk (Clo.mk (by kernel_rfl)) ?_; intros)))
          refine cmpG S7 v1 hi fun H8 S8 => ?_
          (repeat (first | (refine Step.go ?_; intros) | refine iteB_t (by decide) ?_ | refine iteB_f (by decide) ?_ | (refine Duo.mk (by first | omega | exact rfl | decide) ?_; intros) | (refine Duo.mk (Clo.mk (by kernel_rfl)) ?_; intros)))
          refine ⟨?_, out H8 S8⟩
          have e2 : decide (cmpE o mb B ≤ 0) = !ltE o B mb := by
            rw [← cmpE_pos, Bool.eq_iff_iff]; simp
          rw [e2]
          have e3 : conR o B E (some (mb, me), true) = (true && (!ltE o me E && !ltE o B mb)) := rfl
          rw [e3, h]; rfl
        · refine ⟨?_, out H7 S7⟩
          have e3 : conR o B E (some (mb, me), true) = (true && (!ltE o me E && !ltE o B mb)) := rfl
          rw [e3, h]; rfl
/-! Heights, numbers, new trees. -/
theorem height_ok : ∀ (t : Tr) (p : Nat) (H : Heap), t.ht ≤ 1000000 → TrH H g o sr p t → Blk H sr senO → CallsH Try.prog 154 ⟨[pA (t.ref sr), pA sr]⟩ H (Gives (.int .i64 (t.ht : Nat)) H) := by
  intro t
  induction t with
  | nil =>
    intro p H hh hT hb
    refine F154.calls ?_
    unfold F154.go
    refine pq_same ?_
    exact ⟨rfl, ExtH.refl H⟩
  | node it c t u ih1 ih2 =>
    intro p H hh hT hb
    obtain ⟨h1, h2, ⟨m, h3, h4⟩, h5, h6⟩ := hT
    have S := Sat.start H
    have q1 : t.ht ≤ 1000000 ∧ u.ht ≤ 1000000 := by
      rw [Tr.ht] at hh; split at hh <;> omega
    refine F154.calls ?_
    unfold F154.go
    dsimp only [Tr.ref]
    refine pq_ne h2 h4.out hb.out ?_
    (repeat (first | (refine Step.go ?_; intros) | refine iteB_t (by decide) ?_ | refine iteB_f (by decide) ?_ | (refine Duo.mk (by first | omega | exact rfl | decide) ?_; intros) | (refine Duo.mk (Clo.mk (by kernel_rfl)) ?_; intros)))
    refine gives_i S (ih1 it.r H q1.1 h5 hb) fun H1 E1 S1 => ?_
    have h4' := h4.ext E1
    (repeat (first | (refine Step.go ?_; intros) | refine iteB_t (by decide) ?_ | refine iteB_f (by decide) ?_ | (refine Duo.mk (by first | omega | exact rfl | decide) ?_; intros) | (refine Duo.mk (Clo.mk (by kernel_rfl)) ?_; intros)))
    refine gives_i S1 (ih2 it.r H1 q1.2 (h6.ext E1) (hb.ext E1)) fun H2 E2 S2 => ?_
    (repeat (first | (refine Step.go ?_; intros) | refine iteB_t (by decide) ?_ | refine iteB_f (by decide) ?_ | (refine Duo.mk (by first | omega | exact rfl | decide) ?_; intros) | (refine Duo.mk (Clo.mk (by kernel_rfl)) ?_; intros)))
    rw [Tr.ht]
    refine iteB_i (fun h => ?_) (fun h => ?_)
    · have h := of_decide_eq_true h
      rw [if_pos (by omega), wr (by omega) (by omega)]
      exact ⟨rfl, E1.trans E2⟩
    · have h := of_decide_eq_false h
      rw [if_neg (by omega), wr (by omega) (by omega)]
      exact ⟨rfl, E1.trans E2⟩
theorem Height_ok {rt : Nat} (hh : T.ht ≤ 1000000) (hT : StandT H g o sr tp n T) : CallsH Try.prog 141 ⟨[pA tp]⟩ H (Gives (.int .i64 (T.ht : Nat)) H) := by
  obtain ⟨t1, t2, t3, t4⟩ := hT
  have S := Sat.start H
  refine F141.calls ?_
  unfold F141.go
  (repeat (first | (refine Step.go ?_; intros) | refine iteB_t (by decide) ?_ | refine iteB_f (by decide) ?_ | (refine Duo.mk (by first | omega | exact rfl | decide) ?_; intros) | (refine Duo.mk (Clo.mk (by kernel_rfl)) ?_; intros)))
  refine gives_i S (height_ok T sr H hh t1 t3) fun H1 E1 S1 => ?_
  (repeat (first | (refine Step.go ?_; intros) | refine iteB_t (by decide) ?_ | refine iteB_f (by decide) ?_ | (refine Duo.mk (by first | omega | exact rfl | decide) ?_; intros) | (refine Duo.mk (Clo.mk (by kernel_rfl)) ?_; intros)))
  exact ⟨rfl, E1⟩
theorem Len_ok (hT : StandT H g o sr tp n T) : CallsH Try.prog 144 ⟨[pA tp]⟩ H (Gives (.int .i64 n) H) := by
  obtain ⟨t1, t2, t3, t4⟩ := hT
  have S := Sat.start H
  refine F144.calls ?_
  unfold F144.go
  (repeat (first | (refine Step.go ?_; intros) | refine iteB_t (by decide) ?_ | refine iteB_f (by decide) ?_ | (refine Duo.mk (by first | omega | exact rfl | decide) ?_; intros) | (refine Duo.mk (Clo.mk (by kernel_rfl)) ?_; intros)))
  exact ⟨rfl, ExtH.refl H⟩
theorem newTree_ok (S : Sat H l) : CallsH Try.prog 39 ⟨[]⟩ H (fun e H1 => ∃ tp sr, e = .returned (.iface 136 (pA tp)) ∧ Sat H1 (tr g o sr sr .nil :: pt tp (treO sr 0 sr) :: pt sr senO :: l)) := by
  refine F39.calls ?_
  unfold F39.go
  (repeat (first | (refine Step.go ?_; intros) | refine iteB_t (by decide) ?_ | refine iteB_f (by decide) ?_ | (refine Duo.mk (by first | omega | exact rfl | decide) ?_; intros) | (refine Duo.mk (Clo.mk (by kernel_rfl)) ?_; intros)))
  rename_i sr H1 S1 tp H2 S2
  exact ⟨tp, sr, rfl, S2.to tr_mknil⟩
end
end Go.Proofs.Ytobolifgehagfaa

set_option linter.unusedVariables false
set_option linter.unusedSimpArgs false
set_option linter.unnecessarySimpa false
namespace Go.Proofs.Ytobolifgehagfaa
open Go Go.Den Go.Proofs
/-! Intervals made of spans, for trees. -/
theorem freshS {H H0 : Heap} {l x y : List HP} {r : Nat} {o : Obj} (S : Sat H l) (s1 : Sel (pt r o) l x) (s2 : Sel (Den.old H0) x y) : H0.size ≤ r :=
  @Sat.fresh H H0 l x y r o S ⟨s1⟩ ⟨s2⟩
/-- What was made between two heaps. -/
def newOf (H H1 : Heap) : PH := fun b => if H.size ≤ b then H1[b]? else none
theorem new_byt {H H1 : Heap} {r n c : Nat} {b : ByteArray} {rest : List Value} {T : TypeId} {fr : Nat × Nat} {x : EN} (hb : H1[r]? = some (.cells ⟨bytesOf b.data.toList ++ rest⟩ T fr)) (hr : H.size ≤ r) (hn : x.1.size = n) (hx : x.1 = b) :
    IsG (newOf H H1) 2 (.mk 182 (.slice (some ⟨r, 0, none⟩) n c)) x := fun H' hs => by
  refine IsE.byt hn ?_
  rw [hx]
  exact cellsAt_block (hs r _ (by unfold newOf; rw [if_pos hr]; exact hb))
theorem sub_new {H H1 : Heap} : PH.sub (newOf H H1) (PH.of H1) := by
  intro b o e
  unfold newOf at e
  split at e
  · exact e
  · cases e
section
variable {H : Heap}
theorem spanG_ok {o : Int} {s : SP} (ho : 0 ≤ o ∧ o ≤ 3) (hz : Sz s) (hnum : NumOk o s) : CallsH Try.prog 68 ⟨[.int .i64 o, .agg ⟨s.cells⟩]⟩ H (fun e H1 => ExtH H H1 ∧ ∃ i j : IV, e = .returned (.agg ⟨[i.v, j.v]⟩) ∧ IsG (newOf H H1) o i s.B ∧ IsG (newOf H H1) o j s.E) := by
  have S := Sat.start H
  have hz1 := hz.1
  have hz2 := hz.2
  refine F68.calls ?_
  unfold F68.go
  (repeat (first | (refine Step.go ?_; intros) | refine iteB_t (by decide) ?_ | refine iteB_f (by decide) ?_ | (refine Duo.mk (by first | omega | exact rfl | decide) ?_; intros) | (refine Duo.mk (Clo.mk (by kernel_rfl)) ?_; intros)))
  rename_i r H1 S1 r1 H2 S2
  have hp1 : s.p = true → s.end_ = s.b ++ ⟨#[0]⟩ := fun h => by unfold SP.end_; rw [h]; rfl
  have hp0 : s.p = false → s.end_ = s.e := fun h => by unfold SP.end_; rw [h]; rfl
  refine iteB_i (fun h => ?_) (fun h1 => ?_)
  · obtain rfl := eq_of_beq h
    (repeat (first | (refine Step.go ?_; intros) | refine iteB_t (by decide) ?_ | refine iteB_f (by decide) ?_ | (refine Duo.mk (by first | omega | exact rfl | decide) ?_; intros) | (refine Duo.mk (Clo.mk (by kernel_rfl)) ?_; intros)))
    refine iteB_i (fun hp => ?_) (fun hp => ?_)
    · (repeat (first | (refine Step.go ?_; intros) | refine iteB_t (by decide) ?_ | refine iteB_f (by decide) ?_ | (refine Duo.mk (by first | omega | exact rfl | decide) ?_; intros) | (refine Duo.mk (Clo.mk (by kernel_rfl)) ?_; intros)))
      refine gives_i S2 (mkAffP hz1) ?_
      intro H3 E3 S3
      (repeat (first | (refine Step.go ?_; intros) | refine iteB_t (by decide) ?_ | refine iteB_f (by decide) ?_ | (refine Duo.mk (by first | omega | exact rfl | decide) ?_; intros) | (refine Duo.mk (Clo.mk (by kernel_rfl)) ?_; intros)))
      refine ⟨Sat.grown, .mk 180 (.string s.b), .mk 180 (.string (s.b ++ ⟨#[0]⟩)), rfl, (fun _ _ => IsE.aff (x := s.B)), ?_⟩
      rw [← hp1 hp]; exact (fun _ _ => IsE.aff (x := s.E))
    · (repeat (first | (refine Step.go ?_; intros) | refine iteB_t (by decide) ?_ | refine iteB_f (by decide) ?_ | (refine Duo.mk (by first | omega | exact rfl | decide) ?_; intros) | (refine Duo.mk (Clo.mk (by kernel_rfl)) ?_; intros)))
      refine gives_i S2 (mkAff _ _) ?_
      intro H3 E3 S3
      (repeat (first | (refine Step.go ?_; intros) | refine iteB_t (by decide) ?_ | refine iteB_f (by decide) ?_ | (refine Duo.mk (by first | omega | exact rfl | decide) ?_; intros) | (refine Duo.mk (Clo.mk (by kernel_rfl)) ?_; intros)))
      refine ⟨Sat.grown, .mk 180 (.string s.b), .mk 180 (.string s.e), rfl, (fun _ _ => IsE.aff (x := s.B)), ?_⟩
      rw [← hp0 hp]; exact (fun _ _ => IsE.aff (x := s.E))
  have h1 : ¬ o = 1 := by simpa using h1
  refine iteB_i (fun h => ?_) (fun h2 => ?_)
  · obtain rfl := eq_of_beq h
    (repeat (first | (refine Step.go ?_; intros) | refine iteB_t (by decide) ?_ | refine iteB_f (by decide) ?_ | (refine Duo.mk (by first | omega | exact rfl | decide) ?_; intros) | (refine Duo.mk (Clo.mk (by kernel_rfl)) ?_; intros)))
    refine iteB_i (fun hp => ?_) (fun hp => ?_)
    · (repeat (first | (refine Step.go ?_; intros) | refine iteB_t (by decide) ?_ | refine iteB_f (by decide) ?_ | (refine Duo.mk (by first | omega | exact rfl | decide) ?_; intros) | (refine Duo.mk (Clo.mk (by kernel_rfl)) ?_; intros)))
      rename_i r3 c3 H3 _ S3
      refine grow_i S3 (mkBytP (b := s.b) hz1 rfl (cellsAt_block (S3.at_ (List.mem_cons_self ..)))) ?_
      rintro r4 H4 E4 S4
      simp only [List.cons_append, List.nil_append] at S4
      (repeat (first | (refine Step.go ?_; intros) | refine iteB_t (by decide) ?_ | refine iteB_f (by decide) ?_ | (refine Duo.mk (by first | omega | exact rfl | decide) ?_; intros) | (refine Duo.mk (Clo.mk (by kernel_rfl)) ?_; intros)))
      rename_i H5 S5 H6 S6
      refine ⟨Sat.grown, .mk 182 (.slice (some ⟨r3, 0, none⟩) s.b.size c3), .mk 182 (.slice (some ⟨r4, 0, none⟩) (s.b.size + 1) (s.b.size + 1)), rfl, new_byt (x := s.B) (S6.obj) (freshS (r := r3) S6 (by (repeat (first | exact Sel.here | apply Sel.there))) (by (repeat (first | exact Sel.here | apply Sel.there)))) rfl rfl, ?_⟩
      have he := hp1 hp
      exact new_byt (x := s.E) (b := s.b ++ (⟨#[0]⟩ : ByteArray)) (rest := []) (S6.at_ (List.mem_cons_self ..)) (freshS (r := r4) S6 (by (repeat (first | exact Sel.here | apply Sel.there))) (by (repeat (first | exact Sel.here | apply Sel.there)))) (by show s.end_.size = _; rw [he, cat_size]) he
    · (repeat (first | (refine Step.go ?_; intros) | refine iteB_t (by decide) ?_ | refine iteB_f (by decide) ?_ | (refine Duo.mk (by first | omega | exact rfl | decide) ?_; intros) | (refine Duo.mk (Clo.mk (by kernel_rfl)) ?_; intros)))
      rename_i r3 c3 H3 _ S3 r4 c4 H4 _ S4
      refine gives_i S4 (mkByt _ _ _ _ _ _) ?_
      intro H5 E5 S5
      (repeat (first | (refine Step.go ?_; intros) | refine iteB_t (by decide) ?_ | refine iteB_f (by decide) ?_ | (refine Duo.mk (by first | omega | exact rfl | decide) ?_; intros) | (refine Duo.mk (Clo.mk (by kernel_rfl)) ?_; intros)))
      rename_i H6 S6 H7 S7
      refine ⟨Sat.grown, .mk 182 (.slice (some ⟨r3, 0, none⟩) s.b.size c3), .mk 182 (.slice (some ⟨r4, 0, none⟩) s.e.size c4), rfl, new_byt (x := s.B) (S7.obj) (freshS (r := r3) S7 (by (repeat (first | exact Sel.here | apply Sel.there))) (by (repeat (first | exact Sel.here | apply Sel.there)))) rfl rfl, ?_⟩
      have he := hp0 hp
      exact new_byt (x := s.E) (b := s.e) (S7.obj) (freshS (r := r4) S7 (by (repeat (first | exact Sel.here | apply Sel.there))) (by (repeat (first | exact Sel.here | apply Sel.there)))) (by show s.end_.size = _; rw [he]) he
  have h2 : ¬ o = 2 := by simpa using h2
  refine iteB_i (fun h => ?_) (fun h3 => ?_)
  · obtain rfl := eq_of_beq h
    obtain ⟨hp, n1, n2⟩ := hnum rfl
    (repeat (first | (refine Step.go ?_; intros) | refine iteB_t (by decide) ?_ | refine iteB_f (by decide) ?_ | (refine Duo.mk (by first | omega | exact rfl | decide) ?_; intros) | (refine Duo.mk (Clo.mk (by kernel_rfl)) ?_; intros)))
    refine iteB_f hp ?_
    (repeat (first | (refine Step.go ?_; intros) | refine iteB_t (by decide) ?_ | refine iteB_f (by decide) ?_ | (refine Duo.mk (by first | omega | exact rfl | decide) ?_; intros) | (refine Duo.mk (Clo.mk (by kernel_rfl)) ?_; intros)))
    refine gives_i S2 (mkNum _ _) ?_
    intro H3 E3 S3
    (repeat (first | (refine Step.go ?_; intros) | refine iteB_t (by decide) ?_ | refine iteB_f (by decide) ?_ | (refine Duo.mk (by first | omega | exact rfl | decide) ?_; intros) | (refine Duo.mk (Clo.mk (by kernel_rfl)) ?_; intros)))
    exact ⟨Sat.grown, .mk 183 (.int .i64 s.f), .mk 183 (.int .i64 s.t), rfl, (fun _ _ => IsE.num (x := s.B) n1), (fun _ _ => IsE.num (x := s.E) n2)⟩
  have h3 : ¬ o = 3 := by simpa using h3
  obtain rfl : o = 0 := by omega
  (repeat (first | (refine Step.go ?_; intros) | refine iteB_t (by decide) ?_ | refine iteB_f (by decide) ?_ | (refine Duo.mk (by first | omega | exact rfl | decide) ?_; intros) | (refine Duo.mk (Clo.mk (by kernel_rfl)) ?_; intros)))
  refine iteB_i (fun hp => ?_) (fun hp => ?_)
  · (repeat (first | (refine Step.go ?_; intros) | refine iteB_t (by decide) ?_ | refine iteB_f (by decide) ?_ | (refine Duo.mk (by first | omega | exact rfl | decide) ?_; intros) | (refine Duo.mk (Clo.mk (by kernel_rfl)) ?_; intros)))
    refine gives_i S2 (mkStrP hz1) ?_
    intro H3 E3 S3
    (repeat (first | (refine Step.go ?_; intros) | refine iteB_t (by decide) ?_ | refine iteB_f (by decide) ?_ | (refine Duo.mk (by first | omega | exact rfl | decide) ?_; intros) | (refine Duo.mk (Clo.mk (by kernel_rfl)) ?_; intros)))
    refine ⟨Sat.grown, .mk 181 (.string s.b), .mk 181 (.string (s.b ++ ⟨#[0]⟩)), rfl, (fun _ _ => IsE.str (x := s.B)), ?_⟩
    rw [← hp1 hp]; exact (fun _ _ => IsE.str (x := s.E))
  · (repeat (first | (refine Step.go ?_; intros) | refine iteB_t (by decide) ?_ | refine iteB_f (by decide) ?_ | (refine Duo.mk (by first | omega | exact rfl | decide) ?_; intros) | (refine Duo.mk (Clo.mk (by kernel_rfl)) ?_; intros)))
    refine gives_i S2 (mkStr _ _) ?_
    intro H3 E3 S3
    (repeat (first | (refine Step.go ?_; intros) | refine iteB_t (by decide) ?_ | refine iteB_f (by decide) ?_ | (refine Duo.mk (by first | omega | exact rfl | decide) ?_; intros) | (refine Duo.mk (Clo.mk (by kernel_rfl)) ?_; intros)))
    refine ⟨Sat.grown, .mk 181 (.string s.b), .mk 181 (.string s.e), rfl, (fun _ _ => IsE.str (x := s.B)), ?_⟩
    rw [← hp0 hp]; exact (fun _ _ => IsE.str (x := s.E))
end
/-- What was made is added to what stays. -/
def plus (g : PH) (H H1 : Heap) : PH := PH.join g (newOf H H1)
theorem sub_plus_l {g : PH} {H H1 : Heap} : PH.sub g (plus g H H1) := by
  intro b o e
  unfold plus PH.join
  rw [e]
theorem sub_plus_r {g : PH} {H H1 : Heap} {l : List HP} [G : HasG l g] (S : Sat H l) : PH.sub (newOf H H1) (plus g H H1) := by
  intro b o e
  unfold plus PH.join
  have : g b = none := by
    cases h : g b with
    | none => rfl
    | some x =>
      have h1 := block_lt (G.sub S b x h)
      unfold newOf at e
      split at e
      · omega
      · cases e
  rw [this]
  exact e
theorem plus_has {g : PH} {H H1 : Heap} {l : List HP} (S : Sat H (has g :: l)) (E : ExtH H H1) : Sat H1 (has (plus g H H1) :: l) := by
  obtain ⟨h, h1, h2, x⟩ := S.out
  refine ⟨PH.join h (newOf H H1), ?_, ?_, x.mono ?_⟩
  · intro b o e
    unfold plus PH.join at e
    unfold PH.join
    split at e
    · rename_i o' e'
      cases e
      rw [h1 b _ e']
    · rename_i e'
      cases hb : h b with
      | none => exact e
      | some y =>
        have := block_lt (h2 b y hb)
        unfold newOf at e
        split at e
        · omega
        · cases e
  · intro b o e
    unfold PH.join at e
    split at e
    · rename_i o' e'
      cases e
      exact E.block_some (h2 b _ e')
    · exact sub_new b o e
  · intro b o e
    obtain ⟨e1, e2⟩ := PH.of_minus e
    have hl := block_lt e2
    have : PH.join h (newOf H H1) b = none := by
      unfold PH.join
      rw [e1]
      unfold newOf
      rw [if_neg (by omega)]
    rw [PH.minus_none this]
    exact E.block_some e2
theorem nd_mono {g g' : PH} {o : Int} {sr : Nat} {it : It} {M : EN} {x y p : Nat} {c : Bool} {l : List HP} (s : PH.sub g g') : Ent (nd g o sr it M x y p c :: l) (nd g' o sr it M x y p c :: l) := by
  refine Ent.exL fun m => Ent.ex m ?_
  refine Ent.starL (Ent.star ?_)
  exact Ent.liftL fun h => Ent.lift ⟨h.1.mono s, h.2.1, h.2.2.mono s⟩ .refl
theorem tr_mono {g g' : PH} {o : Int} {sr : Nat} (s : PH.sub g g') : ∀ (t : Tr) (p : Nat) (l : List HP), Ent (tr g o sr p t :: l) (tr g' o sr p t :: l)
  | .nil, _, _ => Ent.refl
  | .node it c t u, p, l => by
    refine Ent.starL (Ent.star ?_)
    refine Ent.trans (nd_mono s) (Ent.cons ?_)
    exact Ent.trans (tr_mono s t it.r _) (Ent.cons (tr_mono s u it.r _))
/-- A tree stays a tree when more is known to stay. -/
theorem tree_more {g : PH} {o : Int} {sr : Nat} {T : Tr} {H H1 : Heap} {a c : HP} {l : List HP} (S : Sat H (tr g o sr sr T :: a :: c :: has g :: l)) (E : ExtH H H1) : Sat H1 (tr (plus g H H1) o sr sr T :: a :: c :: has (plus g H H1) :: l) := by
  have S1 : Sat H1 (has (plus g H H1) :: tr g o sr sr T :: a :: c :: l) := plus_has (S.to (m := has g :: tr g o sr sr T :: a :: c :: l) (Ent.bring (by (repeat (first | exact Sel.here | apply Sel.there))))) E
  have S2 : Sat H1 (tr g o sr sr T :: a :: c :: has (plus g H H1) :: l) := by
    refine S1.to ?_
    iterate 4 (apply Ent.pick; (focus (repeat (first | exact Sel.here | apply Sel.there))))
    exact Ent.refl
  exact S2.to (tr_mono sub_plus_l T sr _)
end Go.Proofs.Ytobolifgehagfaa

set_option linter.unusedVariables false
set_option linter.unusedSimpArgs false
set_option linter.unnecessarySimpa false
namespace Go.Proofs.Ytobolifgehagfaa
open Go Go.Den Go.Proofs
/-! One operation of a tree, as it is played. -/
section
variable {P : Program} {H : Heap} {Q : List PanicEntry → Heap → Prop}
theorem assertOk_same {t xt : TypeId} {v : Value} {K : Value → Heap → Prop} (h : concT P t = true) (k : K (.tuple ⟨[v, .bool true]⟩) H) : valD P (Instr.typeAssert (IV.v (.mk t v)) xt t true) H Q K := by
  refine ⟨?_⟩
  unfold concT at h
  unfold Instr.typeAssert
  split at h
  · cases h
  · rename_i d hni hu
    rw [SemH_bind, SemH_underlying hu]
    show SemH P (match d, Value.iface t v with | .interface _, .nilIface => _ | .interface want, .iface t _ => _ | _, .nilIface => _ | _, .iface t v => _ | _, _ => _) H K _
    cases d <;> simp only [if_true] <;> first | exact k | exact (hni _ rfl).elim
  · cases h
theorem assertOk_ne {t u xt : TypeId} {v z : Value} {K : Value → Heap → Prop} (hn : t ≠ u) (h : concT P u = true) (hz : pureV P (zeroValue u) = some z) (k : K (.tuple ⟨[z, .bool false]⟩) H) : valD P (Instr.typeAssert (IV.v (.mk t v)) xt u true) H Q K := by
  refine ⟨?_⟩
  unfold concT at h
  unfold Instr.typeAssert
  split at h
  · cases h
  · rename_i d hni hu
    rw [SemH_bind, SemH_underlying hu]
    show SemH P (match d, Value.iface t v with | .interface _, .nilIface => _ | .interface want, .iface t _ => _ | _, .nilIface => _ | _, .iface t v => _ | _, _ => _) H K _
    have key : SemH P (do pure (.tuple #[← zeroValue u, .bool false]) : Sem Value) H K (fun v H' => Q [{ v, recovered := false }] H') := by
      rw [SemH_bind]
      exact semH_of_pure hz k
    cases d <;> simp only [if_neg hn, if_true] <;> first | exact key | exact (hni _ rfl).elim
  · cases h
end

def outS (o : Int) (B E : EN) : SP := if o = 3 then ⟨⟨#[]⟩, ⟨#[]⟩, false, B.2, E.2⟩ else ⟨B.1, E.1, false, 0, 0⟩
section
variable {H : Heap} {l : List HP} {g : PH} {o : Int} {sr b tp : Nat} {T : Tr} {n : Int} {i j : IV} {B E : EN}
theorem spanOut_ok (hi : IsE H o i B) (hj : IsE H o j E) : CallsH Try.prog 52 ⟨[.agg ⟨[i.v, j.v]⟩]⟩ H (Gives (.agg ⟨(outS o B E).cells⟩) H) := by
  have S := Sat.start H
  refine F52.calls (s0_0 := i) (s0_1 := j) ?_
  unfold F52.go
  cases hi with
  | str =>
    cases hj
    (repeat (first | (refine Step.go ?_; intros) | refine iteB_t (by decide) ?_ | refine iteB_f (by decide) ?_ | (refine Duo.mk (by first | omega | exact rfl | decide) ?_; intros) | (refine Duo.mk (Clo.mk (by kernel_rfl)) ?_; intros)))
    refine assertOk_same (by kernel_rfl) ?_
    (repeat (first | (refine Step.go ?_; intros) | refine iteB_t (by decide) ?_ | refine iteB_f (by decide) ?_ | (refine Duo.mk (by first | omega | exact rfl | decide) ?_; intros) | (refine Duo.mk (Clo.mk (by kernel_rfl)) ?_; intros)))
    refine F52.L0_step ?_
    unfold F52.L0n
    (repeat (first | (refine Step.go ?_; intros) | refine iteB_t (by decide) ?_ | refine iteB_f (by decide) ?_ | (refine Duo.mk (by first | omega | exact rfl | decide) ?_; intros) | (refine Duo.mk (Clo.mk (by kernel_rfl)) ?_; intros)))
    refine assertOk_same (by kernel_rfl) ?_
    (repeat (first | (refine Step.go ?_; intros) | refine iteB_t (by decide) ?_ | refine iteB_f (by decide) ?_ | (refine Duo.mk (by first | omega | exact rfl | decide) ?_; intros) | (refine Duo.mk (Clo.mk (by kernel_rfl)) ?_; intros)))
    exact ⟨rfl, Sat.grown⟩
  | aff =>
    cases hj
    (repeat (first | (refine Step.go ?_; intros) | refine iteB_t (by decide) ?_ | refine iteB_f (by decide) ?_ | (refine Duo.mk (by first | omega | exact rfl | decide) ?_; intros) | (refine Duo.mk (Clo.mk (by kernel_rfl)) ?_; intros)))
    refine assertOk_ne (z := .string ⟨#[]⟩) (by decide) (by kernel_rfl) (by kernel_rfl) ?_
    (repeat (first | (refine Step.go ?_; intros) | refine iteB_t (by decide) ?_ | refine iteB_f (by decide) ?_ | (refine Duo.mk (by first | omega | exact rfl | decide) ?_; intros) | (refine Duo.mk (Clo.mk (by kernel_rfl)) ?_; intros)))
    refine assertOk_same (by kernel_rfl) ?_
    (repeat (first | (refine Step.go ?_; intros) | refine iteB_t (by decide) ?_ | refine iteB_f (by decide) ?_ | (refine Duo.mk (by first | omega | exact rfl | decide) ?_; intros) | (refine Duo.mk (Clo.mk (by kernel_rfl)) ?_; intros)))
    refine F52.L0_step ?_
    unfold F52.L0n
    (repeat (first | (refine Step.go ?_; intros) | refine iteB_t (by decide) ?_ | refine iteB_f (by decide) ?_ | (refine Duo.mk (by first | omega | exact rfl | decide) ?_; intros) | (refine Duo.mk (Clo.mk (by kernel_rfl)) ?_; intros)))
    refine assertOk_ne (z := .string ⟨#[]⟩) (by decide) (by kernel_rfl) (by kernel_rfl) ?_
    (repeat (first | (refine Step.go ?_; intros) | refine iteB_t (by decide) ?_ | refine iteB_f (by decide) ?_ | (refine Duo.mk (by first | omega | exact rfl | decide) ?_; intros) | (refine Duo.mk (Clo.mk (by kernel_rfl)) ?_; intros)))
    refine assertOk_same (by kernel_rfl) ?_
    (repeat (first | (refine Step.go ?_; intros) | refine iteB_t (by decide) ?_ | refine iteB_f (by decide) ?_ | (refine Duo.mk (by first | omega | exact rfl | decide) ?_; intros) | (refine Duo.mk (Clo.mk (by kernel_rfl)) ?_; intros)))
    exact ⟨rfl, Sat.grown⟩
  | byt h1 h2 =>
    cases hj with
    | byt h3 h4 =>
      (repeat (first | (refine Step.go ?_; intros) | refine iteB_t (by decide) ?_ | refine iteB_f (by decide) ?_ | (refine Duo.mk (by first | omega | exact rfl | decide) ?_; intros) | (refine Duo.mk (Clo.mk (by kernel_rfl)) ?_; intros)))
      refine assertOk_ne (z := .string ⟨#[]⟩) (by decide) (by kernel_rfl) (by kernel_rfl) ?_
      (repeat (first | (refine Step.go ?_; intros) | refine iteB_t (by decide) ?_ | refine iteB_f (by decide) ?_ | (refine Duo.mk (by first | omega | exact rfl | decide) ?_; intros) | (refine Duo.mk (Clo.mk (by kernel_rfl)) ?_; intros)))
      refine assertOk_ne (z := .string ⟨#[]⟩) (by decide) (by kernel_rfl) (by kernel_rfl) ?_
      (repeat (first | (refine Step.go ?_; intros) | refine iteB_t (by decide) ?_ | refine iteB_f (by decide) ?_ | (refine Duo.mk (by first | omega | exact rfl | decide) ?_; intros) | (refine Duo.mk (Clo.mk (by kernel_rfl)) ?_; intros)))
      refine assertOk_same (by kernel_rfl) ?_
      (repeat (first | (refine Step.go ?_; intros) | refine iteB_t (by decide) ?_ | refine iteB_f (by decide) ?_ | (refine Duo.mk (by first | omega | exact rfl | decide) ?_; intros) | (refine Duo.mk (Clo.mk (by kernel_rfl)) ?_; intros)))
      refine bsD_of h1 (cellsAt_ext h2 Sat.grown) ?_
      (repeat (first | (refine Step.go ?_; intros) | refine iteB_t (by decide) ?_ | refine iteB_f (by decide) ?_ | (refine Duo.mk (by first | omega | exact rfl | decide) ?_; intros) | (refine Duo.mk (Clo.mk (by kernel_rfl)) ?_; intros)))
      refine F52.L0_step ?_
      unfold F52.L0n
      (repeat (first | (refine Step.go ?_; intros) | refine iteB_t (by decide) ?_ | refine iteB_f (by decide) ?_ | (refine Duo.mk (by first | omega | exact rfl | decide) ?_; intros) | (refine Duo.mk (Clo.mk (by kernel_rfl)) ?_; intros)))
      refine assertOk_ne (z := .string ⟨#[]⟩) (by decide) (by kernel_rfl) (by kernel_rfl) ?_
      (repeat (first | (refine Step.go ?_; intros) | refine iteB_t (by decide) ?_ | refine iteB_f (by decide) ?_ | (refine Duo.mk (by first | omega | exact rfl | decide) ?_; intros) | (refine Duo.mk (Clo.mk (by kernel_rfl)) ?_; intros)))
      refine assertOk_ne (z := .string ⟨#[]⟩) (by decide) (by kernel_rfl) (by kernel_rfl) ?_
      (repeat (first | (refine Step.go ?_; intros) | refine iteB_t (by decide) ?_ | refine iteB_f (by decide) ?_ | (refine Duo.mk (by first | omega | exact rfl | decide) ?_; intros) | (refine Duo.mk (Clo.mk (by kernel_rfl)) ?_; intros)))
      refine assertOk_same (by kernel_rfl) ?_
      (repeat (first | (refine Step.go ?_; intros) | refine iteB_t (by decide) ?_ | refine iteB_f (by decide) ?_ | (refine Duo.mk (by first | omega | exact rfl | decide) ?_; intros) | (refine Duo.mk (Clo.mk (by kernel_rfl)) ?_; intros)))
      refine bsD_of h3 (cellsAt_ext h4 Sat.grown) ?_
      (repeat (first | (refine Step.go ?_; intros) | refine iteB_t (by decide) ?_ | refine iteB_f (by decide) ?_ | (refine Duo.mk (by first | omega | exact rfl | decide) ?_; intros) | (refine Duo.mk (Clo.mk (by kernel_rfl)) ?_; intros)))
      exact ⟨rfl, Sat.grown⟩
  | num h1 =>
    cases hj with
    | num h3 =>
      (repeat (first | (refine Step.go ?_; intros) | refine iteB_t (by decide) ?_ | refine iteB_f (by decide) ?_ | (refine Duo.mk (by first | omega | exact rfl | decide) ?_; intros) | (refine Duo.mk (Clo.mk (by kernel_rfl)) ?_; intros)))
      refine assertOk_ne (z := .string ⟨#[]⟩) (by decide) (by kernel_rfl) (by kernel_rfl) ?_
      (repeat (first | (refine Step.go ?_; intros) | refine iteB_t (by decide) ?_ | refine iteB_f (by decide) ?_ | (refine Duo.mk (by first | omega | exact rfl | decide) ?_; intros) | (refine Duo.mk (Clo.mk (by kernel_rfl)) ?_; intros)))
      refine assertOk_ne (z := .string ⟨#[]⟩) (by decide) (by kernel_rfl) (by kernel_rfl) ?_
      (repeat (first | (refine Step.go ?_; intros) | refine iteB_t (by decide) ?_ | refine iteB_f (by decide) ?_ | (refine Duo.mk (by first | omega | exact rfl | decide) ?_; intros) | (refine Duo.mk (Clo.mk (by kernel_rfl)) ?_; intros)))
      refine assertOk_ne (z := .slice none 0 0) (by decide) (by kernel_rfl) (by kernel_rfl) ?_
      (repeat (first | (refine Step.go ?_; intros) | refine iteB_t (by decide) ?_ | refine iteB_f (by decide) ?_ | (refine Duo.mk (by first | omega | exact rfl | decide) ?_; intros) | (refine Duo.mk (Clo.mk (by kernel_rfl)) ?_; intros)))
      refine assertOk_same (by kernel_rfl) ?_
      (repeat (first | (refine Step.go ?_; intros) | refine iteB_t (by decide) ?_ | refine iteB_f (by decide) ?_ | (refine Duo.mk (by first | omega | exact rfl | decide) ?_; intros) | (refine Duo.mk (Clo.mk (by kernel_rfl)) ?_; intros)))
      refine F52.L0_step ?_
      unfold F52.L0n
      (repeat (first | (refine Step.go ?_; intros) | refine iteB_t (by decide) ?_ | refine iteB_f (by decide) ?_ | (refine Duo.mk (by first | omega | exact rfl | decide) ?_; intros) | (refine Duo.mk (Clo.mk (by kernel_rfl)) ?_; intros)))
      refine assertOk_ne (z := .string ⟨#[]⟩) (by decide) (by kernel_rfl) (by kernel_rfl) ?_
      (repeat (first | (refine Step.go ?_; intros) | refine iteB_t (by decide) ?_ | refine iteB_f (by decide) ?_ | (refine Duo.mk (by first | omega | exact rfl | decide) ?_; intros) | (refine Duo.mk (Clo.mk (by kernel_rfl)) ?_; intros)))
      refine assertOk_ne (z := .string ⟨#[]⟩) (by decide) (by kernel_rfl) (by kernel_rfl) ?_
      (repeat (first | (refine Step.go ?_; intros) | refine iteB_t (by decide) ?_ | refine iteB_f (by decide) ?_ | (refine Duo.mk (by first | omega | exact rfl | decide) ?_; intros) | (refine Duo.mk (Clo.mk (by kernel_rfl)) ?_; intros)))
      refine assertOk_ne (z := .slice none 0 0) (by decide) (by kernel_rfl) (by kernel_rfl) ?_
      (repeat (first | (refine Step.go ?_; intros) | refine iteB_t (by decide) ?_ | refine iteB_f (by decide) ?_ | (refine Duo.mk (by first | omega | exact rfl | decide) ?_; intros) | (refine Duo.mk (Clo.mk (by kernel_rfl)) ?_; intros)))
      refine assertOk_same (by kernel_rfl) ?_
      (repeat (first | (refine Step.go ?_; intros) | refine iteB_t (by decide) ?_ | refine iteB_f (by decide) ?_ | (refine Duo.mk (by first | omega | exact rfl | decide) ?_; intros) | (refine Duo.mk (Clo.mk (by kernel_rfl)) ?_; intros)))
      exact ⟨rfl, Sat.grown⟩
abbrev inC (n : Int) : List Value := [.int .i64 n]
abbrev ansO (ok : Bool) (x y : Int) (lp : Option Addr) (ln lc : Nat) (vp : Option Addr) (vn vc : Nat) : Obj := .cells ⟨[.bool ok, .int .i64 x, .int .i64 y, .slice lp ln lc, .slice vp vn vc]⟩ 40
abbrev ansV (ok : Bool) (x y : Int) (lp : Option Addr) (ln lc : Nat) (vp : Option Addr) (vn vc : Nat) : Value := .agg ⟨[.bool ok, .int .i64 x, .int .i64 y, .slice lp ln lc, .slice vp vn vc]⟩
abbrev nodes (it : It) (H : Heap) : Prop := ∃ m x y p c, Blk H it.r (ndO it m x y p c)
theorem cellsAt_one {r : Nat} {cs : List Value} {T : TypeId} {fr : Nat × Nat} (h : H[r]? = some (.cells ⟨cs⟩ T fr)) : cellsAt H (some ⟨r, 0, none⟩) cs := by
  intro j v hj
  refine ⟨_, rfl, ?_⟩
  rw [add_mk, Nat.zero_add]
  exact hcell_of h hj
theorem note_ok {ra : Nat} {ok : Bool} {x y : Int} {lp vp : Option Addr} {lc vc : Nat} {L : List SP} {V : List Int} {it : It} {val : Int} (hv : it.v = .mk 3 (.int .i64 val)) (hl : L.length ≤ 1000000) (hl2 : V.length ≤ 1000000)
    [G : HasG l g] (hO : OkI g o it) (hb : ∀ H, Sat H l → nodes it H) (S : Sat H (pt ra (ansO ok x y lp L.length lc vp V.length vc) :: sl SP.cells 35 5 lp L.length lc L :: sl inC 3 1 vp V.length vc V :: l)) :
    CallsH Try.prog 69 ⟨[pA it.r, pA ra]⟩ H (fun e H1 => e = .returned (.tuple ⟨[]⟩) ∧ ∃ lp lc vp vc, Sat H1 (pt ra (ansO ok x y lp (L.length + 1) lc vp (V.length + 1) vc) :: sl SP.cells 35 5 lp (L.length + 1) lc (L ++ [outS o it.B it.E]) :: sl inC 3 1 vp (V.length + 1) vc (V ++ [val]) :: l)) := by
  have sub : ∀ {H a b c}, Sat H (a :: b :: c :: l) → Sat H l := fun S => S.to (Ent.drop (Ent.drop (Ent.drop .refl)))
  obtain ⟨ir, ii, ij, iv, iB, iE⟩ := it
  obtain rfl : iv = _ := hv
  refine F69.calls ?_
  unfold F69.go
  obtain ⟨m, u, w, p, c, hB⟩ := hb H (sub S)
  (repeat (first | (refine Step.go ?_; intros) | refine iteB_t (by decide) ?_ | refine iteB_f (by decide) ?_ | (refine Duo.mk (by first | omega | exact rfl | decide) ?_; intros) | (refine Duo.mk (Clo.mk (by kernel_rfl)) ?_; intros)))
  have hg := G.sub (sub S)
  refine gives_i S (spanOut_ok (hO.1 H hg) (hO.2 H hg)) ?_
  intro H1 E1 S1
  (repeat (first | (refine Step.go ?_; intros) | refine iteB_t (by decide) ?_ | refine iteB_f (by decide) ?_ | (refine Duo.mk (by first | omega | exact rfl | decide) ?_; intros) | (refine Duo.mk (Clo.mk (by kernel_rfl)) ?_; intros)))
  rename_i r H2 S2
  have S2' := S2.bring (c := sl SP.cells 35 5 lp L.length lc L) (by (repeat (first | exact Sel.here | apply Sel.there)))
  refine S2'.slApp (ys := [outS o iB iE]) (q := some ⟨r, 0, none⟩) (d := 1) ?_ rfl (by simp) (by simp [isCell]) rfl (by decide) (by omega) ?_
  · simp only [List.flatMap_cons, List.flatMap_nil, List.append_nil]
    exact cellsAt_one (S2.at_ (List.mem_cons_self ..))
  intro lp' lc' H3 S3
  (repeat (first | (refine Step.go ?_; intros) | refine iteB_t (by decide) ?_ | refine iteB_f (by decide) ?_ | (refine Duo.mk (by first | omega | exact rfl | decide) ?_; intros) | (refine Duo.mk (Clo.mk (by kernel_rfl)) ?_; intros)))
  rename_i H4 S4
  have T4 : Sat H4 (pt ra (ansO ok x y lp' (L.length + 1) lc' vp V.length vc) :: sl SP.cells 35 5 lp' (L.length + 1) lc' (L ++ [outS o iB iE]) :: sl inC 3 1 vp V.length vc V :: l) := by
    refine S4.to ?_
    iterate 3 (apply Ent.pick; (focus (repeat (first | exact Sel.here | apply Sel.there))))
    exact Ent.drop Ent.refl
  clear S4 S3 S2 S2' S1 S
  obtain ⟨m4, u4, w4, p4, c4, hB4⟩ := hb H4 (sub T4)
  have fin : ∀ (H5 : Heap) (r2 : Nat), Sat H5 (pt r2 (.cells ⟨[.int .i64 val]⟩ 3) :: pt ra (ansO ok x y lp' (L.length + 1) lc' vp V.length vc) :: sl SP.cells 35 5 lp' (L.length + 1) lc' (L ++ [outS o iB iE]) :: sl inC 3 1 vp V.length vc V :: l) → 
      apD H5 1 8 [(.int .i64 (0 : Int))] 3 vp V.length vc (some ⟨r2, 0, none⟩) 1 fun q3 q3n q3c H7 => st1 H7 (Addr.add (aA ra) 4) (.slice q3 q3n q3c) fun H8 => (fun e H1 => e = Ending.returned (.tuple ⟨[]⟩) ∧ ∃ lp lc vp vc, Sat H1 (pt ra (ansO ok x y lp (L.length + 1) lc vp (V.length + 1) vc) :: sl SP.cells 35 5 lp (L.length + 1) lc (L ++ [outS o iB iE]) :: sl inC 3 1 vp (V.length + 1) vc (V ++ [val]) :: l)) (.returned (.tuple ⟨[]⟩)) H8 := by
    intro H5 r2 S5
    have S6 := S5.bring (c := sl inC 3 1 vp V.length vc V) (by (repeat (first | exact Sel.here | apply Sel.there)))
    refine S6.slApp (ys := [val]) (q := some ⟨r2, 0, none⟩) (d := 1) ?_ rfl (by simp) (by simp [isCell]) rfl (by decide) (by omega) ?_
    · simp only [List.flatMap_cons, List.flatMap_nil, List.append_nil]
      exact cellsAt_one (S5.at_ (List.mem_cons_self ..))
    intro vp' vc' H7 S7
    (repeat (first | (refine Step.go ?_; intros) | refine iteB_t (by decide) ?_ | refine iteB_f (by decide) ?_ | (refine Duo.mk (by first | omega | exact rfl | decide) ?_; intros) | (refine Duo.mk (Clo.mk (by kernel_rfl)) ?_; intros)))
    rename_i H8 S8
    refine ⟨rfl, lp', lc', vp', vc', S8.to ?_⟩
    iterate 3 (apply Ent.pick; (focus (repeat (first | exact Sel.here | apply Sel.there))))
    exact Ent.drop Ent.refl
  refine ⟨?_, ?_⟩
  · (repeat (first | (refine Step.go ?_; intros) | refine iteB_t (by decide) ?_ | refine iteB_f (by decide) ?_ | (refine Duo.mk (by first | omega | exact rfl | decide) ?_; intros) | (refine Duo.mk (Clo.mk (by kernel_rfl)) ?_; intros)))
    exact fin _ _ (by assumption)
  · (repeat (first | (refine Step.go ?_; intros) | refine iteB_t (by decide) ?_ | refine iteB_f (by decide) ?_ | (refine Duo.mk (by first | omega | exact rfl | decide) ?_; intros) | (refine Duo.mk (Clo.mk (by kernel_rfl)) ?_; intros)))
    exact fin _ _ (by assumption)
end
end Go.Proofs.Ytobolifgehagfaa

set_option linter.unusedVariables false
set_option linter.unusedSimpArgs false
set_option linter.unnecessarySimpa false
namespace Go.Proofs.Ytobolifgehagfaa
open Go Go.Den Go.Proofs
abbrev opC (k : Int) (s : SP) (v m : Int) (p : Option Addr) (pn pc : Nat) (q : Option Addr) (qn qc : Nat) : List Value := [.int .i64 k, .string s.b, .string s.e, .bool s.p, .int .i64 s.f, .int .i64 s.t, .int .i64 v, .int .i64 m, .slice p pn pc, .slice q qn qc]
/-- What a tree keeps to. -/
structure Wt (o : Int) (T : Tr) : Prop where
  rb : RB T
  srt : Srt o T.inL
  prop : ∀ it ∈ T.inL, ltE o it.B it.E = true
def vl (it : It) : Int := match it.v with | .mk _ (.int _ n) => n | _ => 0
def ValI (it : It) : Prop := it.v = .mk 3 (.int .i64 (vl it))
theorem Wt.ins {o : Int} {T : Tr} (h : Wt o T) {z : It} (hz : ltE o z.B z.E = true) : Wt o (ins o z T) ∧ (ins o z T).inL = putI o z T.inL := by
  obtain ⟨a, b⟩ := ins_ok (z := z) h.rb h.srt
  refine ⟨⟨a, by rw [b]; exact putI_srt h.srt, fun it hit => ?_⟩, b⟩
  rw [b] at hit
  rcases putI_mem.1 hit with rfl | hit
  · exact hz
  · exact h.prop it hit
section
variable {H : Heap} {l : List HP} {g : PH} {o : Int} {sr b tp : Nat} {T : Tr} {n : Int} {s : SP} {v m : Int} {p q : Option Addr} {pn pc qn qc : Nat}
theorem treedI (hT : RB T) (hn : -1000000000 ≤ n ∧ n ≤ 1000000000) (ho : 0 ≤ o ∧ o ≤ 3) (hz : Sz s) (hnum : NumOk o s) (S : Sat H (tr g o sr sr T :: pt tp (treO (T.ref sr) n sr) :: pt sr senO :: has g :: l)) :
    CallsH Try.prog 40 ⟨[.iface 136 (pA tp), .int .i64 o, .agg ⟨opC 1 s v m p pn pc q qn qc⟩]⟩ H (fun e H1 => e = .returned (ansV false 0 0 none 0 0 none 0 0) ∧ ∃ g' r i j, PH.sub g g' ∧ Sat H1 (tr g' o sr sr (ins o ⟨r, i, j, .mk 3 (.int .i64 v), s.B, s.E⟩ T) :: pt tp (treO ((ins o ⟨r, i, j, .mk 3 (.int .i64 v), s.B, s.E⟩ T).ref sr) (n + 1) sr) :: pt sr senO :: has g' :: l)) := by
  refine F40.calls (s0 := .mk 136 (pA tp)) ?_
  unfold F40.go
  (repeat (first | (refine Step.go ?_; intros) | refine iteB_t (by decide) ?_ | refine iteB_f (by decide) ?_ | (refine Duo.mk (by first | omega | exact rfl | decide) ?_; intros) | (refine Duo.mk (Clo.mk (by kernel_rfl)) ?_; intros)))
  rename_i r _ _ r1 _ _ r2 _ _ _ _ _ _ _ _ _ _ H1 S1
  have T1 : Sat H1 (tr g o sr sr T :: pt tp (treO (T.ref sr) n sr) :: pt sr senO :: has g :: pt r (.cells ⟨opC 1 s v m p pn pc q qn qc⟩ 44) :: pt r1 (ansO false 0 0 none 0 0 none 0 0) :: pt r2 (ansO false 0 0 none 0 0 none 0 0) :: l) := S1.to Fits.out
  clear S1 S
  refine callD_i (spanG_ok ho hz hnum) ?_
  rintro e H2 ⟨E2, i, j, rfl, hi, hj⟩
  have T2 := tree_more T1 E2
  have hi := hi.mono (sub_plus_r (g := g) T1)
  have hj := hj.mono (sub_plus_r (g := g) T1)
  have hsub : PH.sub g (plus g H1 H2) := sub_plus_l
  generalize plus g H1 H2 = g' at T2 hi hj hsub
  clear T1
  (repeat (first | (refine Step.go ?_; intros) | refine iteB_t (by decide) ?_ | refine iteB_f (by decide) ?_ | (refine Duo.mk (by first | omega | exact rfl | decide) ?_; intros) | (refine Duo.mk (Clo.mk (by kernel_rfl)) ?_; intros)))
  rename_i r3 _ _ _ _ _ _ r4 _ _ H5 S5
  refine callI_i (f := 142) (by kernel_rfl) (by kernel_rfl) (by kernel_rfl) ?_
  have S6 : Sat H5 (tr g' o sr sr T :: pt tp (treO (T.ref sr) n sr) :: pt sr senO :: has g' :: pt r4 (.cells ⟨[.func (.func 69) ⟨[]⟩ ⟨[pA r2]⟩]⟩ 140) :: pt r2 (ansO false 0 0 none 0 0 none 0 0) :: pt r1 (ansO false 0 0 none 0 0 none 0 0) :: l) := S5.to Fits.out
  refine callD_i (insert_ok (i := i) (j := j) (v := .mk 3 (.int .i64 v)) (B := s.B) (E := s.E) hi hj hT hn S6) ?_
  rintro e H6 ⟨rfl, nb, S7⟩
  (repeat (first | (refine Step.go ?_; intros) | refine iteB_t (by decide) ?_ | refine iteB_f (by decide) ?_ | (refine Duo.mk (by first | omega | exact rfl | decide) ?_; intros) | (refine Duo.mk (Clo.mk (by kernel_rfl)) ?_; intros)))
  rename_i H8 S8
  exact ⟨rfl, g', nb, i, j, hsub, S8.to Fits.out⟩
theorem treedC (hl : T.inL.length ≤ 1000000) (ho : 0 ≤ o ∧ o ≤ 3) (hz : Sz s) (hnum : NumOk o s) (S : Sat H (tr g o sr sr T :: pt tp (treO (T.ref sr) n sr) :: pt sr senO :: has g :: l)) :
    CallsH Try.prog 40 ⟨[.iface 136 (pA tp), .int .i64 o, .agg ⟨opC 7 s v m p pn pc q qn qc⟩]⟩ H (fun e H1 => e = .returned (ansV (conR o s.B s.E (foldV (conF o) (none, true) (vis o s.B s.E T)).1) 0 0 none 0 0 none 0 0) ∧ ∃ g', PH.sub g g' ∧ Sat H1 (tr g' o sr sr T :: pt tp (treO (T.ref sr) n sr) :: pt sr senO :: has g' :: l)) := by
  refine F40.calls (s0 := .mk 136 (pA tp)) ?_
  unfold F40.go
  (repeat (first | (refine Step.go ?_; intros) | refine iteB_t (by decide) ?_ | refine iteB_f (by decide) ?_ | (refine Duo.mk (by first | omega | exact rfl | decide) ?_; intros) | (refine Duo.mk (Clo.mk (by kernel_rfl)) ?_; intros)))
  rename_i r _ _ r1 _ _ r2 _ _ _ _ _ _ _ _ _ _ H1 S1
  have T1 : Sat H1 (tr g o sr sr T :: pt tp (treO (T.ref sr) n sr) :: pt sr senO :: has g :: pt r (.cells ⟨opC 7 s v m p pn pc q qn qc⟩ 44) :: pt r1 (ansO false 0 0 none 0 0 none 0 0) :: pt r2 (ansO false 0 0 none 0 0 none 0 0) :: l) := S1.to Fits.out
  clear S1 S
  refine callD_i (spanG_ok ho hz hnum) ?_
  rintro e H2 ⟨E2, i, j, rfl, hi, hj⟩
  have T2 := tree_more T1 E2
  have hi := hi.mono (sub_plus_r (g := g) T1)
  have hj := hj.mono (sub_plus_r (g := g) T1)
  have hsub : PH.sub g (plus g H1 H2) := sub_plus_l
  generalize plus g H1 H2 = g' at T2 hi hj hsub
  clear T1
  (repeat (first | (refine Step.go ?_; intros) | refine iteB_t (by decide) ?_ | refine iteB_f (by decide) ?_ | (refine Duo.mk (by first | omega | exact rfl | decide) ?_; intros) | (refine Duo.mk (Clo.mk (by kernel_rfl)) ?_; intros)))
  rename_i r3 _ _ _ _ _ _ r4 _ _ H5 S5
  refine callI_i (f := 138) (by kernel_rfl) (by kernel_rfl) (by kernel_rfl) ?_
  have S6 : Sat H5 (tr g' o sr sr T :: pt tp (treO (T.ref sr) n sr) :: pt sr senO :: has g' :: pt r4 (.cells ⟨[.func (.func 69) ⟨[]⟩ ⟨[pA r2]⟩]⟩ 140) :: pt r2 (ansO false 0 0 none 0 0 none 0 0) :: pt r1 (ansO false 0 0 none 0 0 none 0 0) :: l) := S5.to Fits.out
  refine callD_i (Contains_ok hi hj hl S6) ?_
  rintro e H6 ⟨rfl, S7⟩
  (repeat (first | (refine Step.go ?_; intros) | refine iteB_t (by decide) ?_ | refine iteB_f (by decide) ?_ | (refine Duo.mk (by first | omega | exact rfl | decide) ?_; intros) | (refine Duo.mk (Clo.mk (by kernel_rfl)) ?_; intros)))
  rename_i H8 S8
  exact ⟨rfl, g', hsub, S8.to Fits.out⟩
theorem treedF (hv : ∀ it ∈ T.inL, ValI it) (ho : 0 ≤ o ∧ o ≤ 3) (hz : Sz s) (hnum : NumOk o s) (S : Sat H (tr g o sr sr T :: pt tp (treO (T.ref sr) n sr) :: pt sr senO :: has g :: l)) (hs : Wt o T) :
    CallsH Try.prog 40 ⟨[.iface 136 (pA tp), .int .i64 o, .agg ⟨opC 3 s v m p pn pc q qn qc⟩]⟩ H (fun e H1 => ∃ g' ok L V lp lc vp vc, e = .returned (ansV ok 0 0 lp (List.length L) lc vp (List.length V) vc) ∧ PH.sub g g' ∧ (findT o s.B s.E T = .nil → ok = false ∧ L = [] ∧ V = []) ∧ (∀ it c t u, findT o s.B s.E T = .node it c t u → ok = true ∧ L = [outS o it.B it.E] ∧ V = [vl it]) ∧
      Sat H1 (sl SP.cells 35 5 lp L.length lc L :: sl inC 3 1 vp V.length vc V :: tr g' o sr sr T :: pt tp (treO (T.ref sr) n sr) :: pt sr senO :: has g' :: l)) := by
  refine F40.calls (s0 := .mk 136 (pA tp)) ?_
  unfold F40.go
  (repeat (first | (refine Step.go ?_; intros) | refine iteB_t (by decide) ?_ | refine iteB_f (by decide) ?_ | (refine Duo.mk (by first | omega | exact rfl | decide) ?_; intros) | (refine Duo.mk (Clo.mk (by kernel_rfl)) ?_; intros)))
  rename_i r _ _ r1 _ _ r2 _ _ _ _ _ _ _ _ _ _ H1 S1
  have T1 : Sat H1 (tr g o sr sr T :: pt tp (treO (T.ref sr) n sr) :: pt sr senO :: has g :: pt r (.cells ⟨opC 3 s v m p pn pc q qn qc⟩ 44) :: pt r1 (ansO false 0 0 none 0 0 none 0 0) :: pt r2 (ansO false 0 0 none 0 0 none 0 0) :: l) := S1.to Fits.out
  clear S1 S
  refine callD_i (spanG_ok ho hz hnum) ?_
  rintro e H2 ⟨E2, i, j, rfl, hi, hj⟩
  have T2 := tree_more T1 E2
  have hi := hi.mono (sub_plus_r (g := g) T1)
  have hj := hj.mono (sub_plus_r (g := g) T1)
  have hsub : PH.sub g (plus g H1 H2) := sub_plus_l
  generalize plus g H1 H2 = g' at T2 hi hj hsub
  clear T1
  (repeat (first | (refine Step.go ?_; intros) | refine iteB_t (by decide) ?_ | refine iteB_f (by decide) ?_ | (refine Duo.mk (by first | omega | exact rfl | decide) ?_; intros) | (refine Duo.mk (Clo.mk (by kernel_rfl)) ?_; intros)))
  rename_i r3 _ _ _ _ _ _ r4 _ _ H5 S5
  have S6 : Sat H5 (tr g' o sr sr T :: pt tp (treO (T.ref sr) n sr) :: pt sr senO :: has g' :: pt r4 (.cells ⟨[.func (.func 69) ⟨[]⟩ ⟨[pA r2]⟩]⟩ 140) :: pt r2 (ansO false 0 0 none 0 0 none 0 0) :: pt r1 (ansO false 0 0 none 0 0 none 0 0) :: l) := S5.to Fits.out
  clear S5
  have ST := standT S6 (n := n) (tp := tp) (by (repeat (first | exact Sel.here | apply Sel.there))) (by (repeat (first | exact Sel.here | apply Sel.there))) (by (repeat (first | exact Sel.here | apply Sel.there))) (by (repeat (first | exact Sel.here | apply Sel.there)))
  refine callI_i (f := 140) (by kernel_rfl) (by kernel_rfl) (by kernel_rfl) ?_
  refine gives_i S6 (Find_ok (B := s.B) (E := s.E) hi hj ST.t ST.r ST.b ST.g) ?_
  intro H6 E6 S7
  cases hf : findT o s.B s.E T with
  | nil =>
    (repeat (first | (refine Step.go ?_; intros) | refine iteB_t (by decide) ?_ | refine iteB_f (by decide) ?_ | (refine Duo.mk (by first | omega | exact rfl | decide) ?_; intros) | (refine Duo.mk (Clo.mk (by kernel_rfl)) ?_; intros)))
    rename_i H8 S8
    refine ⟨g', false, [], [], none, 0, none, 0, rfl, hsub, fun _ => ⟨rfl, rfl, rfl⟩, (fun _ _ _ _ h => by cases h), ?_⟩
    refine S8.to (Ent.slNil (Ent.slNil Fits.out))
  | node it c t u =>
    have hit := ((findT_ok (B := s.B) (E := s.E) T hs.srt).1 _ _ _ _ hf).1
    have hO := (ST.t.mem hit).1
    (repeat (first | (refine Step.go ?_; intros) | refine iteB_t (by decide) ?_ | refine iteB_f (by decide) ?_ | (refine Duo.mk (by first | omega | exact rfl | decide) ?_; intros) | (refine Duo.mk (Clo.mk (by kernel_rfl)) ?_; intros)))
    refine iteB_t rfl ?_
    (repeat (first | (refine Step.go ?_; intros) | refine iteB_t (by decide) ?_ | refine iteB_f (by decide) ?_ | (refine Duo.mk (by first | omega | exact rfl | decide) ?_; intros) | (refine Duo.mk (Clo.mk (by kernel_rfl)) ?_; intros)))
    rename_i H8 S8
    have S9 : Sat H8 (pt r2 (ansO true 0 0 none (List.length ([] : List SP)) 0 none (List.length ([] : List Int)) 0) :: sl SP.cells 35 5 none (List.length ([] : List SP)) 0 [] :: sl inC 3 1 none (List.length ([] : List Int)) 0 [] :: tr g' o sr sr T :: pt tp (treO (T.ref sr) n sr) :: pt sr senO :: has g' :: pt r1 (ansO false 0 0 none 0 0 none 0 0) :: l) := by
      refine S8.to ?_
      apply Ent.pick
      · (repeat (first | exact Sel.here | apply Sel.there))
      exact Ent.slNil (Ent.slNil Fits.out)
    clear S8 S7 S6
    refine callD_i (note_ok (g := g') (o := o) (hv it hit) (by simp) (by simp) hO (fun H S => (TrH.mem (trH_of S) hit).2.2) S9) ?_
    rintro e H9 ⟨rfl, lp, lc, vp, vc, S10⟩
    (repeat (first | (refine Step.go ?_; intros) | refine iteB_t (by decide) ?_ | refine iteB_f (by decide) ?_ | (refine Duo.mk (by first | omega | exact rfl | decide) ?_; intros) | (refine Duo.mk (Clo.mk (by kernel_rfl)) ?_; intros)))
    rename_i H11 S11
    refine ⟨g', true, [outS o it.B it.E], [vl it], lp, lc, vp, vc, rfl, hsub, (fun h => by cases h), (fun it' c' t' u' h => by cases h; exact ⟨rfl, rfl, rfl⟩), S11.to ?_⟩
    iterate 6 (apply Ent.pick; (focus (repeat (first | exact Sel.here | apply Sel.there))))
    exact Ent.drop (Ent.drop Ent.refl)
theorem stab_loop {xs : List It} {r1 r2 r4 : Nat} {sp : Option Addr} {sc : Nat} {Rr : Ending → Heap → Prop} (hv : ∀ it ∈ T.inL, ValI it) (hm : ∀ it ∈ xs, it ∈ T.inL) (hx : xs.length ≤ 1000000)
    (fin : ∀ lp lc vp vc H1, Sat H1 (sl SP.cells 35 5 lp xs.length lc (xs.map fun it => outS o it.B it.E) :: sl inC 3 1 vp xs.length vc (xs.map vl) :: tr g o sr sr T :: pt tp (treO (T.ref sr) n sr) :: pt sr senO :: has g :: l) → Rr (.returned (ansV false 0 0 lp xs.length lc vp xs.length vc)) H1) :
    ∀ (k i : Nat) (lp vp : Option Addr) (lc vc : Nat) (H : Heap), i + k = xs.length →
      Sat H (pt r2 (ansO false 0 0 lp i lc vp i vc) :: sl SP.cells 35 5 lp i lc ((xs.take i).map fun it => outS o it.B it.E) :: sl inC 3 1 vp i vc ((xs.take i).map vl) :: tr g o sr sr T :: pt tp (treO (T.ref sr) n sr) :: pt sr senO :: has g :: pt r4 (.cells ⟨[.func (.func 69) ⟨[]⟩ ⟨[pA r2]⟩]⟩ 140) :: pt r1 (ansO false 0 0 none 0 0 none 0 0) :: sl ptrs 111 1 sp xs.length sc xs :: l) →
      F40.L2 r1 r2 r4 sp xs.length sc (xs.length : Nat) (i : Nat) H Rr := by
  intro k
  induction k with
  | zero =>
    intro i lp vp lc vc H hk S
    obtain rfl : i = xs.length := by omega
    rw [List.take_length] at S
    refine F40.L2_step ?_
    unfold F40.L2n
    refine iteB_f (by simp) ?_
    (repeat (first | (refine Step.go ?_; intros) | refine iteB_t (by decide) ?_ | refine iteB_f (by decide) ?_ | (refine Duo.mk (by first | omega | exact rfl | decide) ?_; intros) | (refine Duo.mk (Clo.mk (by kernel_rfl)) ?_; intros)))
    exact fin lp lc vp vc _ (Sat.to (by assumption) Fits.out)
  | succ k ih =>
    intro i lp vp lc vc H hk S
    obtain ⟨it, hit⟩ : ∃ it, xs[i]? = some it := get_of (by omega)
    have hI := HasI.nat hit
    have hin := hm it (List.mem_of_getElem? hit)
    refine F40.L2_step ?_
    unfold F40.L2n
    refine iteB_t (by simp; omega) ?_
    refine Sat.idx (f := ptrs) (E := 111) (z := 1) S ⟨by omega, by omega, fun r0 o0 hr => ?_⟩
    subst hr
    (repeat (first | (refine Step.go ?_; intros) | refine iteB_t (by decide) ?_ | refine iteB_f (by decide) ?_ | (refine Duo.mk (by first | omega | exact rfl | decide) ?_; intros) | (refine Duo.mk (Clo.mk (by kernel_rfl)) ?_; intros)))
    have ST := standT S (n := n) (tp := tp) (by (repeat (first | exact Sel.here | apply Sel.there))) (by (repeat (first | exact Sel.here | apply Sel.there))) (by (repeat (first | exact Sel.here | apply Sel.there))) (by (repeat (first | exact Sel.here | apply Sel.there)))
    have hO := (ST.t.mem hin).1
    have e1 : ((xs.take i).map fun it => outS o it.B it.E).length = i := by simp; omega
    have e2 : ((xs.take i).map vl).length = i := by simp; omega
    have S1 : Sat H (pt r2 (ansO false 0 0 lp ((xs.take i).map fun it => outS o it.B it.E).length lc vp ((xs.take i).map vl).length vc) :: sl SP.cells 35 5 lp ((xs.take i).map fun it => outS o it.B it.E).length lc ((xs.take i).map fun it => outS o it.B it.E) :: sl inC 3 1 vp ((xs.take i).map vl).length vc ((xs.take i).map vl) :: tr g o sr sr T :: pt tp (treO (T.ref sr) n sr) :: pt sr senO :: has g :: pt r4 (.cells ⟨[.func (.func 69) ⟨[]⟩ ⟨[pA r2]⟩]⟩ 140) :: pt r1 (ansO false 0 0 none 0 0 none 0 0) :: sl ptrs 111 1 (some ⟨r0, o0, none⟩) xs.length sc xs :: l) := by
      rw [e1, e2]; exact S
    refine callD_i (note_ok (g := g) (o := o) (hv it hin) (by rw [e1]; omega) (by rw [e2]; omega) hO (fun H S => (TrH.mem (trH_of S) hin).2.2) S1) ?_
    rintro e H9 ⟨rfl, lp', lc', vp', vc', S10⟩
    rw [e1, e2] at S10
    (repeat (first | (refine Step.go ?_; intros) | refine iteB_t (by decide) ?_ | refine iteB_f (by decide) ?_ | (refine Duo.mk (by first | omega | exact rfl | decide) ?_; intros) | (refine Duo.mk (Clo.mk (by kernel_rfl)) ?_; intros)))
    rw [wr (by omega) (by omega)]
    have ei : ((i : Nat) : Int) + 1 = ((i + 1 : Nat) : Int) := by omega
    rw [ei]
    refine ih (i + 1) lp' vp' lc' vc' H9 (by omega) ?_
    have et : xs.take (i + 1) = xs.take i ++ [it] := by
      rw [List.take_add_one, hit]; rfl
    rw [et, List.map_append, List.map_append]
    exact S10
theorem treedS (hl : T.inL.length ≤ 1000000) (hn : n = (T.inL.length : Int)) (hv : ∀ it ∈ T.inL, ValI it) (hsub : ∀ it ∈ vis o s.B s.E T, it ∈ T.inL) (ho : 0 ≤ o ∧ o ≤ 3) (hz : Sz s) (hnum : NumOk o s) (S : Sat H (tr g o sr sr T :: pt tp (treO (T.ref sr) n sr) :: pt sr senO :: has g :: l)) :
    CallsH Try.prog 40 ⟨[.iface 136 (pA tp), .int .i64 o, .agg ⟨opC 4 s v m p pn pc q qn qc⟩]⟩ H (fun e H1 => ∃ g' lp lc vp vc, e = .returned (ansV false 0 0 lp (vis o s.B s.E T).length lc vp (vis o s.B s.E T).length vc) ∧ PH.sub g g' ∧
      Sat H1 (sl SP.cells 35 5 lp (vis o s.B s.E T).length lc ((vis o s.B s.E T).map fun it => outS o it.B it.E) :: sl inC 3 1 vp (vis o s.B s.E T).length vc ((vis o s.B s.E T).map vl) :: tr g' o sr sr T :: pt tp (treO (T.ref sr) n sr) :: pt sr senO :: has g' :: l)) := by
  refine F40.calls (s0 := .mk 136 (pA tp)) ?_
  unfold F40.go
  (repeat (first | (refine Step.go ?_; intros) | refine iteB_t (by decide) ?_ | refine iteB_f (by decide) ?_ | (refine Duo.mk (by first | omega | exact rfl | decide) ?_; intros) | (refine Duo.mk (Clo.mk (by kernel_rfl)) ?_; intros)))
  rename_i r _ _ r1 _ _ r2 _ _ _ _ _ _ _ _ _ _ H1 S1
  have T1 : Sat H1 (tr g o sr sr T :: pt tp (treO (T.ref sr) n sr) :: pt sr senO :: has g :: pt r (.cells ⟨opC 4 s v m p pn pc q qn qc⟩ 44) :: pt r1 (ansO false 0 0 none 0 0 none 0 0) :: pt r2 (ansO false 0 0 none 0 0 none 0 0) :: l) := S1.to Fits.out
  clear S1 S
  refine callD_i (spanG_ok ho hz hnum) ?_
  rintro e H2 ⟨E2, i, j, rfl, hi, hj⟩
  have T2 := tree_more T1 E2
  have hi := hi.mono (sub_plus_r (g := g) T1)
  have hj := hj.mono (sub_plus_r (g := g) T1)
  have hsubg : PH.sub g (plus g H1 H2) := sub_plus_l
  generalize plus g H1 H2 = g' at T2 hi hj hsubg
  clear T1
  (repeat (first | (refine Step.go ?_; intros) | refine iteB_t (by decide) ?_ | refine iteB_f (by decide) ?_ | (refine Duo.mk (by first | omega | exact rfl | decide) ?_; intros) | (refine Duo.mk (Clo.mk (by kernel_rfl)) ?_; intros)))
  rename_i r3 _ _ _ _ _ _ r4 _ _ H5 S5
  refine callI_i (f := 146) (by kernel_rfl) (by kernel_rfl) (by kernel_rfl) ?_
  have S6 : Sat H5 (tr g' o sr sr T :: pt tp (treO (T.ref sr) n sr) :: pt sr senO :: has g' :: pt r4 (.cells ⟨[.func (.func 69) ⟨[]⟩ ⟨[pA r2]⟩]⟩ 140) :: pt r2 (ansO false 0 0 none 0 0 none 0 0) :: pt r1 (ansO false 0 0 none 0 0 none 0 0) :: l) := S5.to Fits.out
  refine callD_i (Stab_ok (B := s.B) (E := s.E) hi hj hn hl S6) ?_
  rintro e H6 ⟨sp, sc, rfl, S7⟩
  have hvl := vis_le (o := o) (B := s.B) (E := s.E) T
  (repeat (first | (refine Step.go ?_; intros) | refine iteB_t (by decide) ?_ | refine iteB_f (by decide) ?_ | (refine Duo.mk (by first | omega | exact rfl | decide) ?_; intros) | (refine Duo.mk (Clo.mk (by kernel_rfl)) ?_; intros)))
  refine stab_loop (g := g') (T := T) (n := n) (l := l) hv hsub (by omega) (fun lp lc vp vc H8 S8 => ⟨g', lp, lc, vp, vc, rfl, hsubg, S8⟩) (vis o s.B s.E T).length 0 none none 0 0 H6 (by omega) ?_
  refine S7.to ?_
  apply Ent.pick
  · (repeat (first | exact Sel.here | apply Sel.there))
  exact Ent.slNil (Ent.slNil Fits.out)
end
end Go.Proofs.Ytobolifgehagfaa

set_option linter.unusedVariables false
set_option linter.unusedSimpArgs false
set_option linter.unnecessarySimpa false
namespace Go.Proofs.Ytobolifgehagfaa
open Go Go.Den Go.Proofs
/-! Trees as they are played. -/
structure OPr where
  k : Int
  s : SP
  v : Int
  m : Int
  p : Option Addr
  pn : Nat
  pc : Nat
  q : Option Addr
  qn : Nat
  qc : Nat
abbrev OPr.cells (x : OPr) : List Value := opC x.k x.s x.v x.m x.p x.pn x.pc x.q x.qn x.qc
structure TA where
  ok : Bool
  x : Int
  y : Int
  lp : Option Addr
  ln : Nat
  lc : Nat
  vp : Option Addr
  vn : Nat
  vc : Nat
abbrev TA.cells (a : TA) : List Value := [.bool a.ok, .int .i64 a.x, .int .i64 a.y, .slice a.lp a.ln a.lc, .slice a.vp a.vn a.vc]
abbrev zTA : TA := ⟨false, 0, 0, none, 0, 0, none, 0, 0⟩
abbrev insO (x : SP × Int) : OPr := ⟨1, x.1, x.2, 0, none, 0, 0, none, 0, 0⟩
/-- An entry of the plain list. -/
def Rl (it : It) (x : SP × Int) : Prop := it.B = x.1.B ∧ it.E = x.1.E ∧ it.v = .mk 3 (.int .i64 x.2)
def putP (o : Int) (z : SP × Int) : List (SP × Int) → List (SP × Int)
  | [] => [z]
  | x :: l => if aheadS o z.1 x.1 then z :: x :: l else x :: putP o z l
inductive All2 {α β : Type} (R : α → β → Prop) : List α → List β → Prop
  | nil : All2 R [] []
  | cons {a : α} {b : β} {l : List α} {m : List β} : R a b → All2 R l m → All2 R (a :: l) (b :: m)
theorem goL_ahead {o : Int} {z it : It} {x y : SP × Int} (h : Rl z x) (h2 : Rl it y) : goL o z.B z.E it = aheadS o x.1 y.1 := by
  unfold goL aheadS
  rw [h.1, h.2.1, h2.1, h2.2.1]
theorem put_rel {o : Int} {z : It} {x : SP × Int} (hz : Rl z x) : ∀ {l : List It} {m : List (SP × Int)}, All2 Rl l m → All2 Rl (putI o z l) (putP o x m)
  | _, _, .nil => .cons hz .nil
  | _, _, .cons (a := a) (b := b) h1 h2 => by
    rw [putI, putP, goL_ahead hz h1]
    split
    · exact .cons hz (.cons h1 h2)
    · exact .cons h1 (put_rel hz h2)
theorem All2.len {α β : Type} {R : α → β → Prop} : ∀ {l : List α} {m : List β}, All2 R l m → l.length = m.length
  | _, _, .nil => rfl
  | _, _, .cons _ h => by simp [h.len]
theorem All2.mem {α β : Type} {R : α → β → Prop} : ∀ {l : List α} {m : List β}, All2 R l m → ∀ a ∈ l, ∃ b ∈ m, R a b
  | _, _, .cons (a := a) (b := b) h1 h2, x, hx => by
    rcases List.mem_cons.1 hx with rfl | hx
    · exact ⟨b, by simp, h1⟩
    · obtain ⟨c, h3, h4⟩ := h2.mem x hx
      exact ⟨c, by simp [h3], h4⟩
theorem Rl.val {it : It} {x : SP × Int} (h : Rl it x) : ValI it := by
  unfold ValI vl
  rw [h.2.2]
theorem Rl.vl {it : It} {x : SP × Int} (h : Rl it x) : vl it = x.2 := by
  unfold Go.Proofs.Ytobolifgehagfaa.vl
  rw [h.2.2]
def putAll (o : Int) (l : List (SP × Int)) : List (SP × Int) → List (SP × Int)
  | [] => l
  | x :: xs => putAll o (putP o x l) xs
theorem putAll_snoc {o : Int} {x : SP × Int} : ∀ (xs l : List (SP × Int)), putAll o l (xs ++ [x]) = putP o x (putAll o l xs)
  | [], l => rfl
  | y :: xs, l => putAll_snoc xs _
/-- What the plain law asks of an interval. -/
def GoodX (o : Int) (x : SP × Int) : Prop := Sz x.1 ∧ NumOk o x.1 ∧ ltE o x.1.B x.1.E = true
section
variable {H : Heap} {l : List HP} {o : Int}
/-- The state behind some intervals. -/
structure TrSt (o : Int) (T : Tr) (L : List (SP × Int)) : Prop where
  wt : Wt o T
  rel : All2 Rl T.inL L
theorem TrSt.nil : TrSt o .nil [] := ⟨⟨⟨⟨0, rfl⟩, trivial, rfl⟩, List.Pairwise.nil, fun _ h => by cases h⟩, .nil⟩
theorem TrSt.ins {T : Tr} {L : List (SP × Int)} (h : TrSt o T L) {x : SP × Int} (hx : ltE o x.1.B x.1.E = true) {z : It} (hz : Rl z x) : TrSt o (ins o z T) (putP o x L) := by
  obtain ⟨a, b⟩ := h.wt.ins (z := z) (by rw [hz.1, hz.2.1]; exact hx)
  exact ⟨a, by rw [b]; exact put_rel hz h.rel⟩
theorem TrSt.len {T : Tr} {L : List (SP × Int)} (h : TrSt o T L) : T.inL.length = L.length := h.rel.len
theorem putP_len {z : SP × Int} : ∀ L : List (SP × Int), (putP o z L).length = L.length + 1
  | [] => rfl
  | x :: L => by
    rw [putP]
    split
    · simp
    · simp [putP_len L]
theorem putAll_len : ∀ (xs L : List (SP × Int)), (putAll o L xs).length = L.length + xs.length
  | [], L => rfl
  | x :: xs, L => by rw [putAll, putAll_len xs, putP_len, List.length_cons]; omega
theorem tree_phase {xs : List (SP × Int)} {last : List OPr} {p : Option Addr} {n c : Nat} {R : Ending → Heap → Prop} (ho : 0 ≤ o ∧ o ≤ 3) (hg : ∀ x ∈ xs, GoodX o x) (hx : xs.length ≤ 1000)
    {tp sr : Nat} (next : ∀ (g : PH) (T : Tr) (op : Option Addr) (oc : Nat) (H1 : Heap), TrSt o T (putAll o [] xs) →
      Sat H1 (sl OPr.cells 44 10 p n c (xs.map insO ++ last) :: sl TA.cells 40 5 op xs.length oc (List.replicate xs.length zTA) :: tr g o sr sr T :: pt tp (treO (T.ref sr) (xs.length : Nat) sr) :: pt sr senO :: has g :: l) →
      F20.L0 o p n c (.mk 136 (pA tp)) op xs.length oc (xs.length : Nat) H1 R) :
    ∀ (k i : Nat) (g : PH) (T : Tr) (op : Option Addr) (oc : Nat) (H : Heap), i + k = xs.length → TrSt o T (putAll o [] (xs.take i)) →
      Sat H (sl OPr.cells 44 10 p n c (xs.map insO ++ last) :: sl TA.cells 40 5 op i oc (List.replicate i zTA) :: tr g o sr sr T :: pt tp (treO (T.ref sr) (i : Nat) sr) :: pt sr senO :: has g :: l) →
      F20.L0 o p n c (.mk 136 (pA tp)) op i oc (i : Nat) H R := by
  intro k
  induction k with
  | zero =>
    intro i g T op oc H hk hT S
    obtain rfl : i = xs.length := by omega
    rw [List.take_length] at hT
    exact next g T op oc H hT S
  | succ k ih =>
    intro i g T op oc H hk hT S
    obtain ⟨x, hxi⟩ : ∃ x, xs[i]? = some x := get_of (by omega)
    have hn := (Sat.slLen S (List.mem_cons_self ..)).1
    rw [List.length_append, List.length_map] at hn
    have hop : (xs.map insO ++ last)[i]? = some (insO x) := by
      rw [List.getElem?_append_left (by simp; omega), List.getElem?_map, hxi]; rfl
    have hI := HasI.nat hop
    obtain ⟨z1, z2, z3⟩ := hg x (List.mem_of_getElem? hxi)
    refine F20.L0_step ?_
    unfold F20.L0n
    refine iteB_t (by simp; omega) ?_
    refine Sat.idx (f := OPr.cells) (E := 44) (z := 10) S ⟨by omega, by omega, fun r0 o0 hr => ?_⟩
    subst hr
    (repeat (first | (refine Step.go ?_; intros) | refine iteB_t (by decide) ?_ | refine iteB_f (by decide) ?_ | (refine Duo.mk (by first | omega | exact rfl | decide) ?_; intros) | (refine Duo.mk (Clo.mk (by kernel_rfl)) ?_; intros)))
    have S1 : Sat H (tr g o sr sr T :: pt tp (treO (T.ref sr) (i : Nat) sr) :: pt sr senO :: has g :: sl OPr.cells 44 10 (some ⟨r0, o0, none⟩) n c (xs.map insO ++ last) :: sl TA.cells 40 5 op i oc (List.replicate i zTA) :: l) := S.to Fits.out
    refine callD_i (treedI (s := x.1) (v := x.2) (m := 0) (p := none) (pn := 0) (pc := 0) (q := none) (qn := 0) (qc := 0) hT.wt.rb (by omega) ho z1 z2 S1) ?_
    rintro e H2 ⟨rfl, g', r, ii, ij, hsub, S2⟩
    clear S S1
    (repeat (first | (refine Step.go ?_; intros) | refine iteB_t (by decide) ?_ | refine iteB_f (by decide) ?_ | (refine Duo.mk (by first | omega | exact rfl | decide) ?_; intros) | (refine Duo.mk (Clo.mk (by kernel_rfl)) ?_; intros)))
    rename_i r2 H3 S3
    have S4 := S3.bring (c := sl TA.cells 40 5 op i oc (List.replicate i zTA)) (by (repeat (first | exact Sel.here | apply Sel.there)))
    refine S4.slApp (ys := [zTA]) (q := some ⟨r2, 0, none⟩) (d := 1) ?_ rfl (by simp) (by simp [isCell]) rfl (by decide) (by omega) ?_
    · simp only [List.flatMap_cons, List.flatMap_nil, List.append_nil]
      exact cellsAt_one (S3.at_ (List.mem_cons_self ..))
    intro op' oc' H4 S5
    rw [wr (by omega) (by omega)]
    have ei : ((i : Nat) : Int) + 1 = ((i + 1 : Nat) : Int) := by omega
    rw [ei] at S5 ⊢
    have er : List.replicate i zTA ++ [zTA] = List.replicate (i + 1) zTA := by rw [List.replicate_succ']
    rw [er] at S5
    have et : xs.take (i + 1) = xs.take i ++ [x] := by
      rw [List.take_add_one, hxi]; rfl
    refine ih (i + 1) g' _ op' oc' H4 (by omega) (by rw [et, putAll_snoc]; exact hT.ins z3 (z := ⟨r, ii, ij, .mk 3 (.int .i64 x.2), x.1.B, x.1.E⟩) ⟨rfl, rfl, rfl⟩) (S5.to Fits.out)
end
end Go.Proofs.Ytobolifgehagfaa

set_option linter.unusedVariables false
set_option linter.unusedSimpArgs false
set_option linter.unnecessarySimpa false
namespace Go.Proofs.Ytobolifgehagfaa
open Go Go.Den Go.Proofs
/-! What is asked last. -/
theorem All2.filter {α β : Type} {R : α → β → Prop} {f : α → Bool} {h : β → Bool} (e : ∀ a b, R a b → f a = h b) : ∀ {l : List α} {m : List β}, All2 R l m → All2 R (l.filter f) (m.filter h)
  | _, _, .nil => .nil
  | _, _, .cons (a := a) (b := b) h1 h2 => by
    rw [List.filter_cons, List.filter_cons, e a b h1]
    split
    · exact .cons h1 (h2.filter e)
    · exact h2.filter e
theorem All2.map_eq {α β γ : Type} {R : α → β → Prop} {f : α → γ} {h : β → γ} (e : ∀ a b, R a b → f a = h b) : ∀ {l : List α} {m : List β}, All2 R l m → l.map f = m.map h
  | _, _, .nil => rfl
  | _, _, .cons (a := a) (b := b) h1 h2 => by rw [List.map_cons, List.map_cons, e a b h1, h2.map_eq e]
def meetX (o : Int) (s : SP) (x : SP × Int) : Bool := meetS o x.1 s
def outX (o : Int) (x : SP × Int) : SP := outS o x.1.B x.1.E
section
variable {H : Heap} {l : List HP} {o : Int} {T : Tr} {L : List (SP × Int)} {s : SP}
theorem TrSt.vis (h : TrSt o T L) (hs : ltE o s.B s.E = true) : (vis o s.B s.E T).map (fun it => outS o it.B it.E) = (L.filter (meetX o s)).map (outX o) ∧ (Go.Proofs.Ytobolifgehagfaa.vis o s.B s.E T).map vl = (L.filter (meetX o s)).map (·.2) ∧ (Go.Proofs.Ytobolifgehagfaa.vis o s.B s.E T).length = (L.filter (meetX o s)).length := by
  rw [vis_ok hs T h.wt.srt h.wt.prop]
  have r := h.rel.filter (f := meetI o s.B s.E) (h := meetX o s) (fun a b r => by
    unfold meetI meetX meetS
    rw [r.1, r.2.1, Bool.and_comm])
  refine ⟨r.map_eq (fun a b r => by unfold outX; rw [r.1, r.2.1]), r.map_eq (fun a b r => r.vl), r.len⟩
theorem TrSt.vis_mem (h : TrSt o T L) (hs : ltE o s.B s.E = true) : ∀ it ∈ Go.Proofs.Ytobolifgehagfaa.vis o s.B s.E T, it ∈ T.inL := by
  rw [vis_ok hs T h.wt.srt h.wt.prop]
  intro it hit
  exact (List.mem_filter.1 hit).1
theorem TrSt.val (h : TrSt o T L) : ∀ it ∈ T.inL, ValI it := by
  intro it hit
  obtain ⟨x, _, hx⟩ := h.rel.mem it hit
  exact hx.val
abbrev lastO (k : Int) (s : SP) (v m : Int) : OPr := ⟨k, s, v, m, none, 0, 0, none, 0, 0⟩
theorem tree_open {xs : List (SP × Int)} {last : List OPr} {p : Option Addr} {n c : Nat} {R : Ending → Heap → Prop} (ho : 0 ≤ o ∧ o ≤ 3) (hg : ∀ x ∈ xs, GoodX o x) (hx : xs.length ≤ 1000)
    (S : Sat H (sl OPr.cells 44 10 p n c (xs.map insO ++ last) :: has (fun _ => none) :: l))
    (next : ∀ (tp sr : Nat) (g : PH) (T : Tr) (op : Option Addr) (oc : Nat) (H1 : Heap), TrSt o T (putAll o [] xs) →
      Sat H1 (sl OPr.cells 44 10 p n c (xs.map insO ++ last) :: sl TA.cells 40 5 op xs.length oc (List.replicate xs.length zTA) :: tr g o sr sr T :: pt tp (treO (T.ref sr) (xs.length : Nat) sr) :: pt sr senO :: has g :: l) →
      F20.L0 o p n c (.mk 136 (pA tp)) op xs.length oc (xs.length : Nat) H1 R) :
    F20.go o p n c H R := by
  unfold F20.go
  refine callD_i (newTree_ok (g := fun _ => none) (o := o) S) ?_
  rintro e H1 ⟨tp, sr, rfl, S1⟩
  (repeat (first | (refine Step.go ?_; intros) | refine iteB_t (by decide) ?_ | refine iteB_f (by decide) ?_ | (refine Duo.mk (by first | omega | exact rfl | decide) ?_; intros) | (refine Duo.mk (Clo.mk (by kernel_rfl)) ?_; intros)))
  have S2 : Sat H1 (sl OPr.cells 44 10 p n c (xs.map insO ++ last) :: sl TA.cells 40 5 none 0 0 (List.replicate 0 zTA) :: tr (fun _ => none) o sr sr .nil :: pt tp (treO (Tr.ref sr .nil) ((0 : Nat) : Int) sr) :: pt sr senO :: has (fun _ => none) :: l) := by
    refine S1.to ?_
    apply Ent.pick
    · (repeat (first | exact Sel.here | apply Sel.there))
    refine Ent.slNil ?_
    iterate 4 (apply Ent.pick; (focus (repeat (first | exact Sel.here | apply Sel.there))))
    exact Ent.refl
  exact tree_phase ho hg hx (fun g T op oc H2 hT S3 => next tp sr g T op oc H2 hT S3) xs.length 0 _ .nil none 0 H1 (by omega) .nil S2
theorem has_nothing (S : Sat H l) : Sat H (has (fun _ => none) :: l) := by
  have h1 : has (fun _ => none) (fun _ => none) := fun b o e => by cases e
  have h2 : PH.sub (fun _ => none) (PH.of H) := fun b o e => by cases e
  exact ⟨fun _ => none, h1, h2, S.out.mono fun b o e => by rw [PH.minus_none rfl]; exact e⟩
/-- The last operation: its answer is put behind the others. -/
theorem tree_last {xs : List (SP × Int)} {p : Option Addr} {n c : Nat} {ta : TA} {op : Option Addr} {oc : Nat} {tp : Nat} {R : Ending → Heap → Prop} {m : List HP} (hx : xs.length ≤ 1000) (hn : n = xs.length + 1)
    (S : Sat H (sl TA.cells 40 5 op xs.length oc (List.replicate xs.length zTA) :: m))
    (fin : ∀ op' oc' H1, Sat H1 (sl TA.cells 40 5 op' (xs.length + 1) oc' (List.replicate xs.length zTA ++ [ta]) :: m) → R (.returned (.slice op' (xs.length + 1) oc')) H1) :
    newD H (.cells ⟨ta.cells⟩ 40) fun r H2 => apD H2 5 72 [.bool false, .int .i64 (0 : Int), .int .i64 (0 : Int), .slice none 0 0, .slice none 0 0] 40 op xs.length oc (some ⟨r, 0, none⟩) 1 fun q4 q4n q4c H3 =>
      F20.L0 o p n c (.mk 136 (pA tp)) q4 q4n q4c (IntKind.wrap .i64 ((xs.length : Nat) + (1 : Int))) H3 R := by
  (repeat (first | (refine Step.go ?_; intros) | refine iteB_t (by decide) ?_ | refine iteB_f (by decide) ?_ | (refine Duo.mk (by first | omega | exact rfl | decide) ?_; intros) | (refine Duo.mk (Clo.mk (by kernel_rfl)) ?_; intros)))
  rename_i r H2 S2
  have S4 := S2.bring (c := sl TA.cells 40 5 op xs.length oc (List.replicate xs.length zTA)) (by (repeat (first | exact Sel.here | apply Sel.there)))
  refine S4.slApp (ys := [ta]) (q := some ⟨r, 0, none⟩) (d := 1) ?_ rfl (by simp) (by simp [isCell]) rfl (by decide) (by omega) ?_
  · simp only [List.flatMap_cons, List.flatMap_nil, List.append_nil]
    exact cellsAt_one (S2.at_ (List.mem_cons_self ..))
  intro op' oc' H4 S5
  rw [wr (by omega) (by omega)]
  refine F20.L0_step ?_
  unfold F20.L0n
  refine iteB_f (by simp; omega) ?_
  exact fin op' oc' H4 (S5.to (Ent.cons (Ent.drop Ent.refl)))
section
variable {xs : List (SP × Int)} {p : Option Addr} {n c : Nat} {v m : Int} (ho : 0 ≤ o ∧ o ≤ 3) (hg : ∀ x ∈ xs, GoodX o x) (hx : xs.length ≤ 1000) (hs : GoodX o (s, 0))
include ho hg hx hs
theorem Tree_stab (S : Sat H (sl OPr.cells 44 10 p n c (xs.map insO ++ [lastO 4 s v m]) :: l)) :
    CallsH Try.prog 20 ⟨[.int .i64 o, .slice p n c]⟩ H (fun e H1 => ∃ op oc lp lc vp vc, e = .returned (.slice op (xs.length + 1) oc) ∧
      Sat H1 (sl TA.cells 40 5 op (xs.length + 1) oc (List.replicate xs.length zTA ++ [⟨false, 0, 0, lp, ((putAll o [] xs).filter (meetX o s)).length, lc, vp, ((putAll o [] xs).filter (meetX o s)).length, vc⟩]) ::
        sl SP.cells 35 5 lp ((putAll o [] xs).filter (meetX o s)).length lc (((putAll o [] xs).filter (meetX o s)).map (outX o)) :: sl inC 3 1 vp ((putAll o [] xs).filter (meetX o s)).length vc (((putAll o [] xs).filter (meetX o s)).map (·.2)) :: l)) := by
  have hn := (Sat.slLen S (List.mem_cons_self ..)).1
  rw [List.length_append, List.length_map, List.length_singleton] at hn
  refine F20.calls ?_
  refine tree_open (last := [lastO 4 s v m]) (l := l) ho hg hx ((has_nothing S).to Fits.out) ?_
  intro tp sr g T op oc H1 hT S1
  have hI : HasI (xs.map insO ++ [lastO 4 s v m]) ((xs.length : Nat) : Int) (lastO 4 s v m) := HasI.nat (by rw [List.getElem?_append_right (by simp)]; simp)
  refine F20.L0_step ?_
  unfold F20.L0n
  refine iteB_t (by simp; omega) ?_
  refine Sat.idx (f := OPr.cells) (E := 44) (z := 10) S1 ⟨by omega, by omega, fun r0 o0 hr => ?_⟩
  subst hr
  (repeat (first | (refine Step.go ?_; intros) | refine iteB_t (by decide) ?_ | refine iteB_f (by decide) ?_ | (refine Duo.mk (by first | omega | exact rfl | decide) ?_; intros) | (refine Duo.mk (Clo.mk (by kernel_rfl)) ?_; intros)))
  have hlen : T.inL.length = xs.length := by rw [hT.len, putAll_len]; simp
  refine callD_i (treedS (T := T) (n := ((xs.length : Nat) : Int)) (g := g) (sr := sr) (tp := tp) (s := s) (v := v) (m := m) (p := none) (pn := 0) (pc := 0) (q := none) (qn := 0) (qc := 0) (by omega) (by omega) hT.val (hT.vis_mem hs.2.2) ho hs.1 hs.2.1 (l := sl OPr.cells 44 10 (some ⟨r0, o0, none⟩) n c (xs.map insO ++ [lastO 4 s v m]) :: sl TA.cells 40 5 op xs.length oc (List.replicate xs.length zTA) :: l) (S1.to Fits.out)) ?_
  rintro e H2 ⟨g', lp, lc, vp, vc, rfl, hsub, S2⟩
  obtain ⟨e1, e2, e3⟩ := hT.vis (s := s) hs.2.2
  rw [e1, e2, e3] at S2
  rw [e3]
  (iterate 13 (refine Step.go ?_; intros))
  refine tree_last (op := op) (oc := oc) (ta := ⟨false, 0, 0, lp, _, lc, vp, _, vc⟩) (m := sl SP.cells 35 5 lp ((putAll o [] xs).filter (meetX o s)).length lc (((putAll o [] xs).filter (meetX o s)).map (outX o)) :: sl inC 3 1 vp ((putAll o [] xs).filter (meetX o s)).length vc (((putAll o [] xs).filter (meetX o s)).map (·.2)) :: l) hx hn.symm (S2.to Fits.out) ?_
  intro op' oc' H3 S3
  exact ⟨op', oc', lp, lc, vp, vc, rfl, S3⟩
theorem Tree_contains (S : Sat H (sl OPr.cells 44 10 p n c (xs.map insO ++ [lastO 7 s v m]) :: l)) :
    CallsH Try.prog 20 ⟨[.int .i64 o, .slice p n c]⟩ H (fun e H1 => ∃ op oc T, e = .returned (.slice op (xs.length + 1) oc) ∧ TrSt o T (putAll o [] xs) ∧
      Sat H1 (sl TA.cells 40 5 op (xs.length + 1) oc (List.replicate xs.length zTA ++ [⟨conR o s.B s.E (foldV (conF o) (none, true) (Go.Proofs.Ytobolifgehagfaa.vis o s.B s.E T)).1, 0, 0, none, 0, 0, none, 0, 0⟩]) :: l)) := by
  have hn := (Sat.slLen S (List.mem_cons_self ..)).1
  rw [List.length_append, List.length_map, List.length_singleton] at hn
  refine F20.calls ?_
  refine tree_open (last := [lastO 7 s v m]) (l := l) ho hg hx ((has_nothing S).to Fits.out) ?_
  intro tp sr g T op oc H1 hT S1
  have hI : HasI (xs.map insO ++ [lastO 7 s v m]) ((xs.length : Nat) : Int) (lastO 7 s v m) := HasI.nat (by rw [List.getElem?_append_right (by simp)]; simp)
  refine F20.L0_step ?_
  unfold F20.L0n
  refine iteB_t (by simp; omega) ?_
  refine Sat.idx (f := OPr.cells) (E := 44) (z := 10) S1 ⟨by omega, by omega, fun r0 o0 hr => ?_⟩
  subst hr
  (repeat (first | (refine Step.go ?_; intros) | refine iteB_t (by decide) ?_ | refine iteB_f (by decide) ?_ | (refine Duo.mk (by first | omega | exact rfl | decide) ?_; intros) | (refine Duo.mk (Clo.mk (by kernel_rfl)) ?_; intros)))
  have hlen : T.inL.length = xs.length := by rw [hT.len, putAll_len]; simp
  refine callD_i (treedC (T := T) (n := ((xs.length : Nat) : Int)) (g := g) (sr := sr) (tp := tp) (s := s) (v := v) (m := m) (p := none) (pn := 0) (pc := 0) (q := none) (qn := 0) (qc := 0) (by omega) ho hs.1 hs.2.1 (l := sl OPr.cells 44 10 (some ⟨r0, o0, none⟩) n c (xs.map insO ++ [lastO 7 s v m]) :: sl TA.cells 40 5 op xs.length oc (List.replicate xs.length zTA) :: l) (S1.to Fits.out)) ?_
  rintro e H2 ⟨rfl, g', hsub, S2⟩
  (iterate 13 (refine Step.go ?_; intros))
  refine tree_last (op := op) (oc := oc) (ta := ⟨_, 0, 0, none, 0, 0, none, 0, 0⟩) (m := l) hx hn.symm (S2.to Fits.out) ?_
  intro op' oc' H3 S3
  exact ⟨op', oc', T, rfl, hT, S3⟩
theorem Tree_find (S : Sat H (sl OPr.cells 44 10 p n c (xs.map insO ++ [lastO 3 s v m]) :: l)) :
    CallsH Try.prog 20 ⟨[.int .i64 o, .slice p n c]⟩ H (fun e H1 => ∃ op oc T ok L V lp lc vp vc, e = .returned (.slice op (xs.length + 1) oc) ∧ TrSt o T (putAll o [] xs) ∧
      (findT o s.B s.E T = .nil → ok = false ∧ L = [] ∧ V = []) ∧ (∀ it c t u, findT o s.B s.E T = .node it c t u → ok = true ∧ L = [outS o it.B it.E] ∧ V = [vl it]) ∧
      Sat H1 (sl TA.cells 40 5 op (xs.length + 1) oc (List.replicate xs.length zTA ++ [⟨ok, 0, 0, lp, L.length, lc, vp, V.length, vc⟩]) :: sl SP.cells 35 5 lp L.length lc L :: sl inC 3 1 vp V.length vc V :: l)) := by
  have hn := (Sat.slLen S (List.mem_cons_self ..)).1
  rw [List.length_append, List.length_map, List.length_singleton] at hn
  refine F20.calls ?_
  refine tree_open (last := [lastO 3 s v m]) (l := l) ho hg hx ((has_nothing S).to Fits.out) ?_
  intro tp sr g T op oc H1 hT S1
  have hI : HasI (xs.map insO ++ [lastO 3 s v m]) ((xs.length : Nat) : Int) (lastO 3 s v m) := HasI.nat (by rw [List.getElem?_append_right (by simp)]; simp)
  refine F20.L0_step ?_
  unfold F20.L0n
  refine iteB_t (by simp; omega) ?_
  refine Sat.idx (f := OPr.cells) (E := 44) (z := 10) S1 ⟨by omega, by omega, fun r0 o0 hr => ?_⟩
  subst hr
  (repeat (first | (refine Step.go ?_; intros) | refine iteB_t (by decide) ?_ | refine iteB_f (by decide) ?_ | (refine Duo.mk (by first | omega | exact rfl | decide) ?_; intros) | (refine Duo.mk (Clo.mk (by kernel_rfl)) ?_; intros)))
  have hlen : T.inL.length = xs.length := by rw [hT.len, putAll_len]; simp
  refine callD_i (treedF (T := T) (n := ((xs.length : Nat) : Int)) (g := g) (sr := sr) (tp := tp) (s := s) (v := v) (m := m) (p := none) (pn := 0) (pc := 0) (q := none) (qn := 0) (qc := 0) hT.val ho hs.1 hs.2.1 (l := sl OPr.cells 44 10 (some ⟨r0, o0, none⟩) n c (xs.map insO ++ [lastO 3 s v m]) :: sl TA.cells 40 5 op xs.length oc (List.replicate xs.length zTA) :: l) (S1.to Fits.out) hT.wt) ?_
  rintro e H2 ⟨g', ok, L, V, lp, lc, vp, vc, rfl, hsub, f1, f2, S2⟩
  (iterate 13 (refine Step.go ?_; intros))
  refine tree_last (op := op) (oc := oc) (ta := ⟨ok, 0, 0, lp, L.length, lc, vp, V.length, vc⟩) (m := sl SP.cells 35 5 lp L.length lc L :: sl inC 3 1 vp V.length vc V :: l) hx hn.symm (S2.to Fits.out) ?_
  intro op' oc' H3 S3
  exact ⟨op', oc', T, ok, L, V, lp, lc, vp, vc, rfl, hT, f1, f2, S3⟩
end
end
end Go.Proofs.Ytobolifgehagfaa
