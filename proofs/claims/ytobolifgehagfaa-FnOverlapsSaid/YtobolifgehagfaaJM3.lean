/- What functions of this seat do, each proved by a walk; no condition. -/
import Derived.Test.YtobolifgehagfaaJM2
import Derived.Test.YtobolifgehagfaaJM1
set_option linter.unusedVariables false
set_option linter.unusedSimpArgs false
set_option linter.unnecessarySimpa false
namespace Go.Proofs.Ytobolifgehagfaa
open Go Go.Den Go.Proofs
section
variable {H : Heap} {l m : List HP} {g : PH} {o : Int} {sr b tp : Nat}
theorem RB.path {T : Tr} (h : RB T) (o : Int) (z : It) : rootB (path o z.B z.E T []) := (h.fixPre o z).rb
/-- Insert. -/
theorem insert_ok {i j v : IV} {B E : EN} {T : Tr} {n : Int} (hi : IsG g o i B) (hj : IsG g o j E) (hT : RB T) (hn : -1000000000 ≤ n ∧ n ≤ 1000000000)
    (S : Sat H (tr g o sr sr T :: pt tp (treO (T.ref sr) n sr) :: pt sr senO :: has g :: l)) :
    CallsH Try.prog 142 ⟨[pA tp, .agg ⟨[i.v, j.v]⟩, v.v]⟩ H (fun e H1 => e = .returned (.tuple ⟨[]⟩) ∧ ∃ r, Sat H1 (tr g o sr sr (ins o ⟨r, i, j, v, B, E⟩ T) :: pt tp (treO ((ins o ⟨r, i, j, v, B, E⟩ T).ref sr) (n + 1) sr) :: pt sr senO :: has g :: l)) := by
  refine F142.calls (s1_0 := i) (s1_1 := j) (s2 := v) ?_
  unfold F142.go
  (repeat (first | (refine Step.go ?_; intros) | refine iteB_t (by decide) ?_ | refine iteB_f (by decide) ?_ | (refine Duo.mk (by first | omega | exact rfl | decide) ?_; intros) | (refine Duo.mk (Clo.mk (by kernel_rfl)) ?_; intros)))
  rename_i r0 H1 S1
  have T1 : Sat H1 (pt tp (treO (T.ref sr) n sr) :: tr g o sr sr T :: pt sr senO :: has g :: l) := by
    refine S1.to ?_
    iterate 4 (apply Ent.pick; (focus (repeat (first | exact Sel.here | apply Sel.there))))
    exact Ent.drop Ent.refl
  clear S1 S
  refine call_of (create_ok (i := i) (j := j) (v := v) T1) ?_
  rintro _ H2 ⟨r, rfl, S2⟩
  (repeat (first | (refine Step.go ?_; intros) | refine iteB_t (by decide) ?_ | refine iteB_f (by decide) ?_ | (refine Duo.mk (by first | omega | exact rfl | decide) ?_; intros) | (refine Duo.mk (Clo.mk (by kernel_rfl)) ?_; intros)))
  have hz : r ≠ sr := S2.ne (r := r) (r' := sr) (o' := senO) (by (repeat (first | exact Sel.here | apply Sel.there))) (by (repeat (first | exact Sel.here | apply Sel.there)))
  have hO : OkI g o ⟨r, i, j, v, B, E⟩ := ⟨hi, hj⟩
  have T2 : Sat H2 (tr g o sr (par sr []) T :: cx g o sr (T.ref sr) (T.mx o) [] :: pt r (ndO ⟨r, i, j, v, B, E⟩ j sr sr sr true) :: pt tp (treO (rootR [] (T.ref sr)) n sr) :: pt sr senO :: has g :: l) := by
    refine S2.to ?_
    apply Ent.pick
    · (repeat (first | exact Sel.here | apply Sel.there))
    refine Ent.star ?_
    iterate 4 (apply Ent.pick; (focus (repeat (first | exact Sel.here | apply Sel.there))))
    exact Ent.refl
  exact ins_loop (z := ⟨r, i, j, v, B, E⟩) hO hz hn T [] H2 (fun f k' e => by cases e) (hT.path o ⟨r, i, j, v, B, E⟩) T2 (fun H3 S3 => ⟨rfl, r, by unfold ins; rw [setC_ref]; exact S3⟩)
end
/-! Trees that are only looked at. -/
class Blk (H : Heap) (r : Nat) (o : outParam Obj) : Prop where
  out : H[r]? = some o
section
variable {P : Program} {H : Heap} {l : List HP} {r j : Nat} {a : Addr} {cs : List Value} {T : TypeId} {fr : Nat × Nat}
theorem blk_cell {v : Value} (L : Loca a r j) (A : Blk H r (.cells ⟨cs⟩ T fr)) (N : Nth cs j v) : hcell H a = some v := by
  rw [L.out]
  exact hcell_of A.out N.out
instance (priority := 400) {kd : IntKind} {n : Int} {K : Int → Prop} [L : Loca a r j] [A : Blk H r (.cells ⟨cs⟩ T fr)] [N : Nth cs j (.int kd n)] : Step (ldInt H a kd K) (K n) := ⟨fun h => ⟨_, blk_cell L A N, h⟩⟩
instance (priority := 400) {n : Bool} {K : Bool → Prop} [L : Loca a r j] [A : Blk H r (.cells ⟨cs⟩ T fr)] [N : Nth cs j (.bool n)] : Step (ldBool H a K) (K n) := ⟨fun h => ⟨_, blk_cell L A N, h⟩⟩
instance (priority := 400) {n : ByteArray} {K : ByteArray → Prop} [L : Loca a r j] [A : Blk H r (.cells ⟨cs⟩ T fr)] [N : Nth cs j (.string n)] : Step (ldStr H a K) (K n) := ⟨fun h => ⟨_, blk_cell L A N, h⟩⟩
instance (priority := 400) {n : Option Addr} {K : Option Addr → Prop} [L : Loca a r j] [A : Blk H r (.cells ⟨cs⟩ T fr)] [N : Nth cs j (.pointer n)] : Step (ldPtr H a K) (K n) := ⟨fun h => ⟨_, blk_cell L A N, h⟩⟩
instance (priority := 400) {p : Option Addr} {n c : Nat} {K : Option Addr → Nat → Nat → Prop} [L : Loca a r j] [A : Blk H r (.cells ⟨cs⟩ T fr)] [N : Nth cs j (.slice p n c)] : Step (ldSl H a K) (K p n c) := ⟨fun h => ⟨_, _, _, blk_cell L A N, h⟩⟩
instance (priority := 400) {K : IV → Prop} [L : Loca a r j] [A : Blk H r (.cells ⟨cs⟩ T fr)] [N : Nth cs j .nilIface] : Step (ldIf H a K) (K .nil) := ⟨fun h => ⟨.nil, blk_cell L A N, h⟩⟩
instance (priority := 400) {t : TypeId} {x : Value} {K : IV → Prop} [L : Loca a r j] [A : Blk H r (.cells ⟨cs⟩ T fr)] [N : Nth cs j (.iface t x)] : Step (ldIf H a K) (K (.mk t x)) := ⟨fun h => ⟨.mk t x, blk_cell L A N, h⟩⟩
instance (priority := 400) {i : IV} {K : IV → Prop} [L : Loca a r j] [A : Blk H r (.cells ⟨cs⟩ T fr)] [N : Nth cs j i.v] : Step (ldIf H a K) (K i) := ⟨fun h => ⟨i, blk_cell L A N, h⟩⟩
end
theorem Blk.ext {H H1 : Heap} {r : Nat} {o : Obj} (h : Blk H r o) (e : ExtH H H1) : Blk H1 r o := ⟨e.block_some h.out⟩
/-- A tree stands in a heap. -/
def TrH (H : Heap) (g : PH) (o : Int) (sr : Nat) : Nat → Tr → Prop
  | _, .nil => True
  | p, .node it c t u => OkI g o it ∧ it.r ≠ sr ∧ (∃ m, IsM g o m (mx3 o it.E (t.mx o) (u.mx o)) ∧ Blk H it.r (ndO it m (t.ref sr) (u.ref sr) p c)) ∧ TrH H g o sr it.r t ∧ TrH H g o sr it.r u
section
variable {H H1 : Heap} {l m : List HP} {g : PH} {o : Int} {sr b tp : Nat}
theorem TrH.ext : ∀ {t : Tr} {p : Nat}, TrH H g o sr p t → ExtH H H1 → TrH H1 g o sr p t
  | .nil, _, _, _ => trivial
  | .node it c t u, p, ⟨h1, h2, ⟨m, h3, h4⟩, h5, h6⟩, e => ⟨h1, h2, ⟨m, h3, h4.ext e⟩, h5.ext e, h6.ext e⟩
theorem trH_of : ∀ {t : Tr} {p : Nat} {l : List HP}, Sat H (tr g o sr p t :: l) → TrH H g o sr p t
  | .nil, _, _, _ => trivial
  | .node it c t u, p, l, S => by
    obtain ⟨m, h1, h2, h3, S1⟩ := tr_open S
    refine ⟨h1, h2, ⟨m, h3, ⟨S1.at_ (by simp)⟩⟩, trH_of (S1.bring (c := tr g o sr it.r t) (by (repeat (first | exact Sel.here | apply Sel.there)))), trH_of (S1.bring (c := tr g o sr it.r u) (by (repeat (first | exact Sel.here | apply Sel.there))))⟩
theorem TrH.mem : ∀ {t : Tr} {p : Nat}, TrH H g o sr p t → ∀ {it : It}, it ∈ t.inL → OkI g o it ∧ it.r ≠ sr ∧ ∃ m x y p c, Blk H it.r (ndO it m x y p c)
  | .nil, _, _, it, h => by cases h
  | .node z c t u, p, ⟨h1, h2, ⟨m, h3, h4⟩, h5, h6⟩, it, h => by
    rw [Tr.inL] at h
    rcases List.mem_append.1 h with h | h
    · exact TrH.mem h5 h
    · rcases List.mem_cons.1 h with rfl | h
      · exact ⟨h1, h2, _, _, _, _, _, h4⟩
      · exact TrH.mem h6 h
theorem subExt {H H1 : Heap} {g : PH} (h : PH.sub g (PH.of H)) (e : ExtH H H1) : PH.sub g (PH.of H1) := h.trans fun b o x => e.block_some x
/-- Two ends compared. -/
theorem cmpH {i j : IV} {x y : EN} {Q : List PanicEntry → Heap → Prop} {K : Value → Heap → Prop} (hg : PH.sub g (PH.of H)) (hi : IsG g o i x) (hj : IsG g o j y) (S : Sat H l) (k : ∀ H1, ExtH H H1 → Sat H1 l → K (.int .i64 (cmpE o x y)) H1) : callI Try.prog i.v "Compare" [j.v] H Q K :=
  cmp_i (hi H hg) (hj H hg) S k
/-- Two intervals compared. -/
theorem compareC {a b : Nat} {i j i2 j2 : IV} {x xe y ye : EN} {ca cb : List Value} {Ta Tb : TypeId} (h1 : Blk H a (.cells ⟨ca⟩ Ta)) (h2 : Blk H b (.cells ⟨cb⟩ Tb)) (a0 : ca[0]? = some i.v) (a1 : ca[1]? = some j.v) (b0 : cb[0]? = some i2.v) (b1 : cb[1]? = some j2.v)
    (hi : IsE H o i x) (hj : IsE H o j xe) (hi2 : IsE H o i2 y) (hj2 : IsE H o j2 ye) :
    CallsH Try.prog 157 ⟨[pA a, .iface 291 (pA b)]⟩ H (Gives (.int .i64 (cmpI o x xe y ye)) H) := by
  have S := Sat.start H
  have A1 := atOld h1.out
  have A2 := atOld h2.out
  have N1 : Nth ca 0 i.v := ⟨a0⟩
  have N2 : Nth ca 1 j.v := ⟨a1⟩
  have N3 : Nth cb 0 i2.v := ⟨b0⟩
  have N4 : Nth cb 1 j2.v := ⟨b1⟩
  refine F157.calls (c := .mk 291 (pA b)) ?_
  unfold F157.go
  (repeat (first | (refine Step.go ?_; intros) | refine iteB_t (by decide) ?_ | refine iteB_f (by decide) ?_ | (refine Duo.mk (by first | omega | exact rfl | decide) ?_; intros) | (refine Duo.mk (Clo.mk (by kernel_rfl)) ?_; intros)))
  refine nilV_of hi.mk ?_
  (repeat (first | (refine Step.go ?_; intros) | refine iteB_t (by decide) ?_ | refine iteB_f (by decide) ?_ | (refine Duo.mk (by first | omega | exact rfl | decide) ?_; intros) | (refine Duo.mk (Clo.mk (by kernel_rfl)) ?_; intros)))
  refine cmp_i hi hi2 S ?_
  intro H1 E1 S1
  (repeat (first | (refine Step.go ?_; intros) | refine iteB_t (by decide) ?_ | refine iteB_f (by decide) ?_ | (refine Duo.mk (by first | omega | exact rfl | decide) ?_; intros) | (refine Duo.mk (Clo.mk (by kernel_rfl)) ?_; intros)))
  refine nilV_of hi.mk ?_
  (repeat (first | (refine Step.go ?_; intros) | refine iteB_t (by decide) ?_ | refine iteB_f (by decide) ?_ | (refine Duo.mk (by first | omega | exact rfl | decide) ?_; intros) | (refine Duo.mk (Clo.mk (by kernel_rfl)) ?_; intros)))
  refine cmp_i (hi.ext E1) (hj2.ext E1) S1 ?_
  intro H2 E2 S2
  (repeat (first | (refine Step.go ?_; intros) | refine iteB_t (by decide) ?_ | refine iteB_f (by decide) ?_ | (refine Duo.mk (by first | omega | exact rfl | decide) ?_; intros) | (refine Duo.mk (Clo.mk (by kernel_rfl)) ?_; intros)))
  refine nilV_of hj.mk ?_
  (repeat (first | (refine Step.go ?_; intros) | refine iteB_t (by decide) ?_ | refine iteB_f (by decide) ?_ | (refine Duo.mk (by first | omega | exact rfl | decide) ?_; intros) | (refine Duo.mk (Clo.mk (by kernel_rfl)) ?_; intros)))
  refine cmp_i (hj.ext (E1.trans E2)) (hi2.ext (E1.trans E2)) S2 ?_
  intro H3 E3 S3
  have E : ExtH H H3 := Sat.grown
  (repeat (first | (refine Step.go ?_; intros) | refine iteB_t (by decide) ?_ | refine iteB_f (by decide) ?_ | (refine Duo.mk (by first | omega | exact rfl | decide) ?_; intros) | (refine Duo.mk (Clo.mk (by kernel_rfl)) ?_; intros)))
  unfold cmpI
  have l0 : ¬ (cmpE o x y < 0 ∧ cmpE o xe y ≤ 0) → F157.L0 (cmpE o x ye) H3 (Gives (.int .i64 (if cmpE o x y < 0 ∧ cmpE o xe y ≤ 0 then (-1 : Int) else if 0 ≤ cmpE o x ye then 1 else 0)) H) := by
    intro hn
    rw [if_neg hn]
    refine F157.L0_step ?_
    unfold F157.L0n
    refine iteB_i (fun h => ?_) (fun h => ?_)
    · rw [if_pos (of_decide_eq_true h)]; exact ⟨rfl, E⟩
    · rw [if_neg (of_decide_eq_false h)]; exact ⟨rfl, E⟩
  refine iteB_i (fun h => ?_) (fun h => ?_)
  · have h := of_decide_eq_true h
    refine iteB_i (fun h2 => ?_) (fun h2 => ?_)
    · rw [if_pos ⟨h, of_decide_eq_true h2⟩]; exact ⟨rfl, E⟩
    · exact l0 (fun h3 => of_decide_eq_false h2 h3.2)
  · exact l0 (fun h3 => of_decide_eq_false h h3.1)
end
end Go.Proofs.Ytobolifgehagfaa

set_option linter.unusedVariables false
set_option linter.unusedSimpArgs false
set_option linter.unnecessarySimpa false
namespace Go.Proofs.Ytobolifgehagfaa
open Go Go.Den Go.Proofs
/-! Visits. -/
theorem foldV_append {σ : Type} (f : σ → It → σ × Bool) : ∀ (a b : List It) (s : σ), foldV f s (a ++ b) = if (foldV f s a).2 then foldV f (foldV f s a).1 b else ((foldV f s a).1, false)
  | [], b, s => by simp [foldV]
  | x :: a, b, s => by
    rw [List.cons_append, foldV, foldV]
    cases h : (f s x).2 with
    | true => simp only [if_true]; exact foldV_append f a b _
    | false => simp
structure Vis {σ : Type} (I : σ → Heap → Prop) (f : σ → It → σ × Bool) (nv : FV) (A : List It) (w : σ → Nat) (W : Nat) : Prop where
  wt : ∀ s it, w (f s it).1 ≤ w s + 1
  ext : ∀ s H H1, I s H → ExtH H H1 → I s H1
  call : ∀ s it H Q K, it ∈ A → w s < W → I s H → (∀ H1, I (f s it).1 H1 → K (.bool (f s it).2) H1) → callV Try.prog nv.v [pA it.r] H Q K
theorem foldV_w {σ : Type} {f : σ → It → σ × Bool} {w : σ → Nat} (wt : ∀ s it, w (f s it).1 ≤ w s + 1) : ∀ (l : List It) (s : σ), w (foldV f s l).1 ≤ w s + l.length
  | [], s => Nat.le_refl _
  | x :: l, s => by
    rw [foldV]
    have h := wt s x
    split
    · have := foldV_w wt l (f s x).1
      simp only [List.length_cons]; omega
    · simp only [List.length_cons]; omega
/-- What stands while a tree is visited. -/
structure Stand (H : Heap) (g : PH) (o : Int) (sr vb : Nat) (i j : IV) : Prop where
  b : Blk H sr senO
  g : PH.sub g (PH.of H)
  v : Blk H vb (.cells ⟨[i.v, j.v]⟩ 109)
theorem tail_b {b : Bool} {H : Heap} {Q : List PanicEntry → Heap → Prop} {K : Value → Heap → Prop} (k : K (.bool b) H) : iteB (!b) (retK K Q (.returned (.bool false)) H) (retK K Q (.returned (.bool true)) H) := by
  cases b <;> exact k
section
variable {σ : Type} {I : σ → Heap → Prop} {f : σ → It → σ × Bool} {nv : FV} {A : List It} {w : σ → Nat} {W : Nat} {g : PH} {o : Int} {sr vb tp : Nat} {i j : IV} {B E : EN}
theorem visit_ok (V : Vis I f nv A w W) (hi : IsG g o i B) (hj : IsG g o j E) (hS : ∀ s H, I s H → Stand H g o sr vb i j) : ∀ (t : Tr) (p : Nat), (∀ s H, I s H → TrH H g o sr p t) → (∀ it ∈ t.inL, it ∈ A) →
    ∀ (s : σ) (H : Heap) (Q : List PanicEntry → Heap → Prop) (K : Value → Heap → Prop), w s + (vis o B E t).length ≤ W → I s H → (∀ H1, I (foldV f s (vis o B E t)).1 H1 → K (.bool (foldV f s (vis o B E t)).2) H1) →
    callD Try.prog 161 [pA (t.ref sr), pA vb, pA sr, nv.v] H Q K := by
  intro t
  induction t with
  | nil =>
    intro p hT hA s H Q K hw hI k
    refine F161.calls ?_
    unfold F161.go
    refine pq_same ?_
    (repeat (first | (refine Step.go ?_; intros) | refine iteB_t (by decide) ?_ | refine iteB_f (by decide) ?_ | (refine Duo.mk (by first | omega | exact rfl | decide) ?_; intros) | (refine Duo.mk (Clo.mk (by kernel_rfl)) ?_; intros)))
    exact k H hI
  | node it c t u ih1 ih2 =>
    intro p hT hA s H Q K hw hI k
    have iht := ih1 it.r (fun s H h => (hT s H h).2.2.2.1) (fun x hx => hA x (by simp [Tr.inL, hx]))
    have ihu := ih2 it.r (fun s H h => (hT s H h).2.2.2.2) (fun x hx => hA x (by simp [Tr.inL, hx]))
    have hmem : it ∈ A := hA it (by simp [Tr.inL])
    refine F161.calls ?_
    unfold F161.go
    dsimp only [Tr.ref]
    obtain ⟨h1, h2, ⟨m, ⟨M', hm1, hm2⟩, h4⟩, h5, h6⟩ := hT s H hI
    obtain ⟨b2, hg, b3⟩ := hS s H hI
    refine pq_ne h2 h4.out b2.out ?_
    (repeat (first | (refine Step.go ?_; intros) | refine iteB_t (by decide) ?_ | refine iteB_f (by decide) ?_ | (refine Duo.mk (by first | omega | exact rfl | decide) ?_; intros) | (refine Duo.mk (Clo.mk (by kernel_rfl)) ?_; intros)))
    refine call_of (compareC b3 h4 rfl rfl rfl rfl (hi H hg) (hj H hg) (h1.1 H hg) (h1.2 H hg)) ?_
    rintro _ H1 ⟨rfl, E1⟩
    have I1 := V.ext s H H1 hI E1
    have h4' := h4.ext E1
    clear h4 h5 h6 b2 hg b3
    (repeat (first | (refine Step.go ?_; intros) | refine iteB_t (by decide) ?_ | refine iteB_f (by decide) ?_ | (refine Duo.mk (by first | omega | exact rfl | decide) ?_; intros) | (refine Duo.mk (Clo.mk (by kernel_rfl)) ?_; intros)))
    unfold vis at k hw
    refine iteB_i (fun h => ?_) (fun h => ?_)
    · rw [if_pos (of_decide_eq_true h)] at k hw
      (repeat (first | (refine Step.go ?_; intros) | refine iteB_t (by decide) ?_ | refine iteB_f (by decide) ?_ | (refine Duo.mk (by first | omega | exact rfl | decide) ?_; intros) | (refine Duo.mk (Clo.mk (by kernel_rfl)) ?_; intros)))
      refine iht s H1 _ _ hw I1 fun H2 I2 => ?_
      (repeat (first | (refine Step.go ?_; intros) | refine iteB_t (by decide) ?_ | refine iteB_f (by decide) ?_ | (refine Duo.mk (by first | omega | exact rfl | decide) ?_; intros) | (refine Duo.mk (Clo.mk (by kernel_rfl)) ?_; intros)))
      exact tail_b (k H2 I2)
    rw [if_neg (of_decide_eq_false h)] at k hw
    refine iteB_i (fun h' => ?_) (fun h' => ?_)
    · rw [if_pos (of_decide_eq_true h')] at k hw
      have S1 := Sat.start H1
      (repeat (first | (refine Step.go ?_; intros) | refine iteB_t (by decide) ?_ | refine iteB_f (by decide) ?_ | (refine Duo.mk (by first | omega | exact rfl | decide) ?_; intros) | (refine Duo.mk (Clo.mk (by kernel_rfl)) ?_; intros)))
      rename_i r _ _ _ _ H4 S4
      have E2 : ExtH H1 H4 := Sat.grown
      have I2 := V.ext s H1 H4 I1 E2
      obtain ⟨b2, hg, b3⟩ := hS s H4 I2
      refine call_of (compareC (a := r) ⟨S4.at_ (List.mem_cons_self ..)⟩ b3 rfl rfl rfl rfl (h1.1 H4 hg) (hm1 H4 hg) (hi H4 hg) (hj H4 hg)) ?_
      rintro _ H5 ⟨rfl, E3⟩
      have I3 := V.ext s H4 H5 I2 E3
      have h5' := (h4'.ext E2).ext E3
      have e : cmpI o it.B M' B E = cmpI o it.B (mx3 o it.E (t.mx o) (u.mx o)) B E := by
        unfold cmpI
        rw [show cmpE o M' B = cmpE o (mx3 o it.E (t.mx o) (u.mx o)) B from by unfold cmpE; rw [hm2.lt_l, hm2.lt_r]]
      rw [e]
      (repeat (first | (refine Step.go ?_; intros) | refine iteB_t (by decide) ?_ | refine iteB_f (by decide) ?_ | (refine Duo.mk (by first | omega | exact rfl | decide) ?_; intros) | (refine Duo.mk (Clo.mk (by kernel_rfl)) ?_; intros)))
      refine iteB_i (fun h7 => ?_) (fun h7 => ?_)
      · rw [if_pos (eq_of_beq h7), foldV_append] at k
        rw [if_pos (eq_of_beq h7), List.length_append] at hw
        have hw1 := foldV_w (f := f) V.wt (vis o B E t) s
        (repeat (first | (refine Step.go ?_; intros) | refine iteB_t (by decide) ?_ | refine iteB_f (by decide) ?_ | (refine Duo.mk (by first | omega | exact rfl | decide) ?_; intros) | (refine Duo.mk (Clo.mk (by kernel_rfl)) ?_; intros)))
        refine iht s H5 _ _ (by omega) I3 fun H6 I6 => ?_
        (repeat (first | (refine Step.go ?_; intros) | refine iteB_t (by decide) ?_ | refine iteB_f (by decide) ?_ | (refine Duo.mk (by first | omega | exact rfl | decide) ?_; intros) | (refine Duo.mk (Clo.mk (by kernel_rfl)) ?_; intros)))
        cases hb : (foldV f s (vis o B E t)).2 with
        | false =>
          rw [hb, if_neg (by simp)] at k
          exact k H6 I6
        | true =>
          rw [hb, if_pos rfl] at k
          refine iteB_f rfl ?_
          obtain ⟨_, _, ⟨m3, _, h43⟩, _, _⟩ := hT _ H6 I6
          (repeat (first | (refine Step.go ?_; intros) | refine iteB_t (by decide) ?_ | refine iteB_f (by decide) ?_ | (refine Duo.mk (by first | omega | exact rfl | decide) ?_; intros) | (refine Duo.mk (Clo.mk (by kernel_rfl)) ?_; intros)))
          refine ihu _ H6 _ _ (by omega) I6 fun H7 I7 => ?_
          (repeat (first | (refine Step.go ?_; intros) | refine iteB_t (by decide) ?_ | refine iteB_f (by decide) ?_ | (refine Duo.mk (by first | omega | exact rfl | decide) ?_; intros) | (refine Duo.mk (Clo.mk (by kernel_rfl)) ?_; intros)))
          exact tail_b (k H7 I7)
      · rw [if_neg (by simpa using h7)] at k
        exact k H5 I3
    · rw [if_neg (of_decide_eq_false h')] at k hw
      rw [foldV_append] at k
      rw [List.length_append, List.length_cons] at hw
      have hw1 := foldV_w (f := f) V.wt (vis o B E t) s
      have hw2 := V.wt (foldV f s (vis o B E t)).1 it
      (repeat (first | (refine Step.go ?_; intros) | refine iteB_t (by decide) ?_ | refine iteB_f (by decide) ?_ | (refine Duo.mk (by first | omega | exact rfl | decide) ?_; intros) | (refine Duo.mk (Clo.mk (by kernel_rfl)) ?_; intros)))
      refine iht s H1 _ _ (by omega) I1 fun H2 I2 => ?_
      (repeat (first | (refine Step.go ?_; intros) | refine iteB_t (by decide) ?_ | refine iteB_f (by decide) ?_ | (refine Duo.mk (by first | omega | exact rfl | decide) ?_; intros) | (refine Duo.mk (Clo.mk (by kernel_rfl)) ?_; intros)))
      cases hb : (foldV f s (vis o B E t)).2 with
      | false =>
        rw [hb, if_neg (by simp)] at k
        exact k H2 I2
      | true =>
        rw [hb, if_pos rfl, foldV] at k
        refine iteB_f rfl ?_
        refine V.call _ it H2 _ _ hmem (by omega) I2 fun H3 I3 => ?_
        (repeat (first | (refine Step.go ?_; intros) | refine iteB_t (by decide) ?_ | refine iteB_f (by decide) ?_ | (refine Duo.mk (by first | omega | exact rfl | decide) ?_; intros) | (refine Duo.mk (Clo.mk (by kernel_rfl)) ?_; intros)))
        cases hc : (f (foldV f s (vis o B E t)).1 it).2 with
        | false =>
          rw [hc, if_neg (by simp)] at k
          exact k H3 I3
        | true =>
          rw [hc, if_pos rfl] at k
          refine iteB_f rfl ?_
          obtain ⟨_, _, ⟨m3, _, h43⟩, _, _⟩ := hT _ H3 I3
          (repeat (first | (refine Step.go ?_; intros) | refine iteB_t (by decide) ?_ | refine iteB_f (by decide) ?_ | (refine Duo.mk (by first | omega | exact rfl | decide) ?_; intros) | (refine Duo.mk (Clo.mk (by kernel_rfl)) ?_; intros)))
          refine ihu _ H3 _ _ (by omega) I3 fun H4 I4 => ?_
          (repeat (first | (refine Step.go ?_; intros) | refine iteB_t (by decide) ?_ | refine iteB_f (by decide) ?_ | (refine Duo.mk (by first | omega | exact rfl | decide) ?_; intros) | (refine Duo.mk (Clo.mk (by kernel_rfl)) ?_; intros)))
          exact tail_b (k H4 I4)
/-- Visits, with memory beside them. -/
structure VisJ {σ : Type} (J : σ → List HP → Heap → Prop) (f : σ → It → σ × Bool) (nv : FV) (A : List It) (w : σ → Nat) (W : Nat) : Prop where
  wt : ∀ s it, w (f s it).1 ≤ w s + 1
  grow : ∀ s l m H H1, J s l H → Sat H1 (m ++ [Den.old H]) → J s (m ++ l) H1
  sat : ∀ s l H, J s l H → Sat H l
  drop : ∀ s m l H, J s (m ++ l) H → J s l H
  call : ∀ s l it H Q K, it ∈ A → w s < W → J s l H → (∀ H1, J (f s it).1 l H1 → K (.bool (f s it).2) H1) → callV Try.prog nv.v [pA it.r] H Q K
theorem VisJ.ext {J : σ → List HP → Heap → Prop} (V : VisJ J f nv A w W) {s : σ} {l : List HP} {H H1 : Heap} (h : J s l H) (e : ExtH H H1) : J s l H1 :=
  V.grow s l [] H H1 h (Sat.ext (Sat.start H) e)
/-- What stands in each state. -/
structure StandT (H : Heap) (g : PH) (o : Int) (sr tp : Nat) (n : Int) (T : Tr) : Prop where
  t : TrH H g o sr sr T
  r : Blk H tp (treO (T.ref sr) n sr)
  b : Blk H sr senO
  g : PH.sub g (PH.of H)
theorem StandT.ext {H H1 : Heap} {n : Int} {T : Tr} (h : StandT H g o sr tp n T) (e : ExtH H H1) : StandT H1 g o sr tp n T := ⟨h.t.ext e, h.r.ext e, h.b.ext e, subExt h.g e⟩
theorem Visit_ok {J : σ → List HP → Heap → Prop} {T : Tr} {n : Int} {Q : List PanicEntry → Heap → Prop} {K : Value → Heap → Prop} (V : VisJ J f nv T.inL w W) (hi : IsG g o i B) (hj : IsG g o j E) (hS : ∀ s l H, J s l H → StandT H g o sr tp n T)
    {s : σ} {l : List HP} {H : Heap} (hw : w s + (vis o B E T).length ≤ W) (h0 : J s l H) (k : ∀ H1, J (foldV f s (vis o B E T)).1 l H1 → K (.tuple ⟨[]⟩) H1) :
    callD Try.prog 148 [pA tp, .agg ⟨[i.v, j.v]⟩, nv.v] H Q K := by
  refine F148.calls (ivl_0 := i) (ivl_1 := j) (ivv := nv) ?_
  unfold F148.go
  have S := Sat.start H
  (repeat (first | (refine Step.go ?_; intros) | refine iteB_t (by decide) ?_ | refine iteB_f (by decide) ?_ | (refine Duo.mk (by first | omega | exact rfl | decide) ?_; intros) | (refine Duo.mk (Clo.mk (by kernel_rfl)) ?_; intros)))
  rw [isCell_FV]
  (repeat (first | (refine Step.go ?_; intros) | refine iteB_t (by decide) ?_ | refine iteB_f (by decide) ?_ | (refine Duo.mk (by first | omega | exact rfl | decide) ?_; intros) | (refine Duo.mk (Clo.mk (by kernel_rfl)) ?_; intros)))
  rename_i r H1 S1 r1 H2 S2
  obtain ⟨t1, t2, t3, t4⟩ := hS s l H h0
  have E2 : ExtH H H2 := Sat.grown
  have t2' := t2.ext E2
  (repeat (first | (refine Step.go ?_; intros) | refine iteB_t (by decide) ?_ | refine iteB_f (by decide) ?_ | (refine Duo.mk (by first | omega | exact rfl | decide) ?_; intros) | (refine Duo.mk (Clo.mk (by kernel_rfl)) ?_; intros)))
  have J2 : J s ([pt r1 (.cells ⟨[nv.v]⟩ 283), pt r (.cells ⟨[i.v, j.v]⟩ 109)] ++ l) H2 := V.grow s l _ H H2 h0 S2
  have V2 : Vis (fun s H => J s ([pt r1 (.cells ⟨[nv.v]⟩ 283), pt r (.cells ⟨[i.v, j.v]⟩ 109)] ++ l) H) f (.mk (.func 162) ⟨[]⟩ ⟨[pA r1]⟩) T.inL w W := by
    refine ⟨V.wt, fun s H H1 h e => V.ext h e, fun s it H Q K hit hw h k => ?_⟩
    have S := V.sat _ _ _ h
    refine Step.go (Duo.mk (Clo.mk (by kernel_rfl)) ?_)
    refine F162.calls ?_
    unfold F162.go
    simp only [List.cons_append, List.nil_append] at S
    (repeat (first | (refine Step.go ?_; intros) | refine iteB_t (by decide) ?_ | refine iteB_f (by decide) ?_ | (refine Duo.mk (by first | omega | exact rfl | decide) ?_; intros) | (refine Duo.mk (Clo.mk (by kernel_rfl)) ?_; intros)))
    refine V.call _ _ it _ _ _ hit hw h fun H1 h1 => ?_
    (repeat (first | (refine Step.go ?_; intros) | refine iteB_t (by decide) ?_ | refine iteB_f (by decide) ?_ | (refine Duo.mk (by first | omega | exact rfl | decide) ?_; intros) | (refine Duo.mk (Clo.mk (by kernel_rfl)) ?_; intros)))
    exact k H1 h1
  refine visit_ok (vb := r) V2 hi hj (fun s H h => ?_) T sr (fun s H h => (hS s _ H h).t) (fun _ h => h) s H2 _ _ hw J2 fun H3 J3 => ?_
  · have S := V.sat _ _ _ h
    have t := hS s _ H h
    exact ⟨t.b, t.g, ⟨S.at_ (by simp)⟩⟩
  · (repeat (first | (refine Step.go ?_; intros) | refine iteB_t (by decide) ?_ | refine iteB_f (by decide) ?_ | (refine Duo.mk (by first | omega | exact rfl | decide) ?_; intros) | (refine Duo.mk (Clo.mk (by kernel_rfl)) ?_; intros)))
    exact k H3 (V.drop _ _ _ _ J3)
end
end Go.Proofs.Ytobolifgehagfaa

set_option linter.unusedVariables false
set_option linter.unusedSimpArgs false
set_option linter.unnecessarySimpa false
namespace Go.Proofs.Ytobolifgehagfaa
open Go Go.Den Go.Proofs
def addF : List It → It → List It × Bool := fun s it => (s ++ [it], true)
theorem foldV_add : ∀ (l s : List It), foldV addF s l = (s ++ l, true)
  | [], s => by simp [foldV]
  | x :: l, s => by
    show foldV addF (s ++ [x]) l = _
    rw [foldV_add l]
    simp
section
variable {H : Heap} {l : List HP} {g : PH} {o : Int} {sr b tp : Nat} {T : Tr} {n : Int} {i j : IV} {B E : EN}
end
end Go.Proofs.Ytobolifgehagfaa

set_option linter.unusedVariables false
set_option linter.unusedSimpArgs false
set_option linter.unnecessarySimpa false
namespace Go.Proofs.Ytobolifgehagfaa
open Go Go.Den Go.Proofs
/-! Whether a tree contains an interval. -/
section
variable {H : Heap} {l : List HP} {g : PH} {o : Int} {sr b tp : Nat} {T : Tr} {n : Int} {i j : IV} {B E : EN}
theorem ifNil_nil {k : Bool → Prop} (h : k true) : ifNilD (IV.v .nil) k := h
theorem ifNil_mk {t : TypeId} {x : Value} {k : Bool → Prop} (h : k false) : ifNilD (IV.v (.mk t x)) k := h
theorem newTree_ok (S : Sat H l) : CallsH Try.prog 39 ⟨[]⟩ H (fun e H1 => ∃ tp sr, e = .returned (.iface 136 (pA tp)) ∧ Sat H1 (tr g o sr sr .nil :: pt tp (treO sr 0 sr) :: pt sr senO :: l)) := by
  refine F39.calls ?_
  unfold F39.go
  (repeat (first | (refine Step.go ?_; intros) | refine iteB_t (by decide) ?_ | refine iteB_f (by decide) ?_ | (refine Duo.mk (by first | omega | exact rfl | decide) ?_; intros) | (refine Duo.mk (Clo.mk (by kernel_rfl)) ?_; intros)))
  rename_i sr H1 S1 tp H2 S2
  exact ⟨tp, sr, rfl, S2.to tr_mknil⟩
end
end Go.Proofs.Ytobolifgehagfaa

set_option linter.unusedVariables false
set_option linter.unusedSimpArgs false
set_option linter.unnecessarySimpa false
namespace Go.Proofs.Ytobolifgehagfaa
open Go Go.Den Go.Proofs
section
variable {H : Heap}
end
end Go.Proofs.Ytobolifgehagfaa

set_option linter.unusedVariables false
set_option linter.unusedSimpArgs false
set_option linter.unnecessarySimpa false
namespace Go.Proofs.Ytobolifgehagfaa
open Go Go.Den Go.Proofs
/-! One operation of a tree, as it is played. -/
section
variable {P : Program} {H : Heap} {Q : List PanicEntry → Heap → Prop}
theorem assertOk_same {t xt : TypeId} {v : Value} {K : Value → Heap → Prop} (h : concT P t = true) (k : K (.tuple ⟨[v, .bool true]⟩) H) : valD P (Instr.typeAssert (IV.v (.mk t v)) xt t true) H Q K := by
  refine ⟨?_⟩
  unfold concT at h
  unfold Instr.typeAssert
  split at h
  · cases h
  · rename_i d hni hu
    rw [SemH_bind, SemH_underlying hu]
    show SemH P (match d, Value.iface t v with | .interface _, .nilIface => _ | .interface want, .iface t _ => _ | _, .nilIface => _ | _, .iface t v => _ | _, _ => _) H K _
    cases d <;> simp only [if_true] <;> first | exact k | exact (hni _ rfl).elim
  · cases h
theorem assertOk_ne {t u xt : TypeId} {v z : Value} {K : Value → Heap → Prop} (hn : t ≠ u) (h : concT P u = true) (hz : pureV P (zeroValue u) = some z) (k : K (.tuple ⟨[z, .bool false]⟩) H) : valD P (Instr.typeAssert (IV.v (.mk t v)) xt u true) H Q K := by
  refine ⟨?_⟩
  unfold concT at h
  unfold Instr.typeAssert
  split at h
  · cases h
  · rename_i d hni hu
    rw [SemH_bind, SemH_underlying hu]
    show SemH P (match d, Value.iface t v with | .interface _, .nilIface => _ | .interface want, .iface t _ => _ | _, .nilIface => _ | _, .iface t v => _ | _, _ => _) H K _
    have key : SemH P (do pure (.tuple #[← zeroValue u, .bool false]) : Sem Value) H K (fun v H' => Q [{ v, recovered := false }] H') := by
      rw [SemH_bind]
      exact semH_of_pure hz k
    cases d <;> simp only [if_neg hn, if_true] <;> first | exact key | exact (hni _ rfl).elim
  · cases h
end

def outS (o : Int) (B E : EN) : SP := if o = 3 then ⟨⟨#[]⟩, ⟨#[]⟩, false, B.2, E.2⟩ else ⟨B.1, E.1, false, 0, 0⟩
section
variable {H : Heap} {l : List HP} {g : PH} {o : Int} {sr b tp : Nat} {T : Tr} {n : Int} {i j : IV} {B E : EN}
theorem spanOut_ok (hi : IsE H o i B) (hj : IsE H o j E) : CallsH Try.prog 52 ⟨[.agg ⟨[i.v, j.v]⟩]⟩ H (Gives (.agg ⟨(outS o B E).cells⟩) H) := by
  have S := Sat.start H
  refine F52.calls (s0_0 := i) (s0_1 := j) ?_
  unfold F52.go
  cases hi with
  | str =>
    cases hj
    (repeat (first | (refine Step.go ?_; intros) | refine iteB_t (by decide) ?_ | refine iteB_f (by decide) ?_ | (refine Duo.mk (by first | omega | exact rfl | decide) ?_; intros) | (refine Duo.mk (Clo.mk (by kernel_rfl)) ?_; intros)))
    refine assertOk_same (by kernel_rfl) ?_
    (repeat (first | (refine Step.go ?_; intros) | refine iteB_t (by decide) ?_ | refine iteB_f (by decide) ?_ | (refine Duo.mk (by first | omega | exact rfl | decide) ?_; intros) | (refine Duo.mk (Clo.mk (by kernel_rfl)) ?_; intros)))
    refine F52.L0_step ?_
    unfold F52.L0n
    (repeat (first | (refine Step.go ?_; intros) | refine iteB_t (by decide) ?_ | refine iteB_f (by decide) ?_ | (refine Duo.mk (by first | omega | exact rfl | decide) ?_; intros) | (refine Duo.mk (Clo.mk (by kernel_rfl)) ?_; intros)))
    refine assertOk_same (by kernel_rfl) ?_
    (repeat (first | (refine Step.go ?_; intros) | refine iteB_t (by decide) ?_ | refine iteB_f (by decide) ?_ | (refine Duo.mk (by first | omega | exact rfl | decide) ?_; intros) | (refine Duo.mk (Clo.mk (by kernel_rfl)) ?_; intros)))
    exact ⟨rfl, Sat.grown⟩
  | aff =>
    cases hj
    (repeat (first | (refine Step.go ?_; intros) | refine iteB_t (by decide) ?_ | refine iteB_f (by decide) ?_ | (refine Duo.mk (by first | omega | exact rfl | decide) ?_; intros) | (refine Duo.mk (Clo.mk (by kernel_rfl)) ?_; intros)))
    refine assertOk_ne (z := .string ⟨#[]⟩) (by decide) (by kernel_rfl) (by kernel_rfl) ?_
    (repeat (first | (refine Step.go ?_; intros) | refine iteB_t (by decide) ?_ | refine iteB_f (by decide) ?_ | (refine Duo.mk (by first | omega | exact rfl | decide) ?_; intros) | (refine Duo.mk (Clo.mk (by kernel_rfl)) ?_; intros)))
    refine assertOk_same (by kernel_rfl) ?_
    (repeat (first | (refine Step.go ?_; intros) | refine iteB_t (by decide) ?_ | refine iteB_f (by decide) ?_ | (refine Duo.mk (by first | omega | exact rfl | decide) ?_; intros) | (refine Duo.mk (Clo.mk (by kernel_rfl)) ?_; intros)))
    refine F52.L0_step ?_
    unfold F52.L0n
    (repeat (first | (refine Step.go ?_; intros) | refine iteB_t (by decide) ?_ | refine iteB_f (by decide) ?_ | (refine Duo.mk (by first | omega | exact rfl | decide) ?_; intros) | (refine Duo.mk (Clo.mk (by kernel_rfl)) ?_; intros)))
    refine assertOk_ne (z := .string ⟨#[]⟩) (by decide) (by kernel_rfl) (by kernel_rfl) ?_
    (repeat (first | (refine Step.go ?_; intros) | refine iteB_t (by decide) ?_ | refine iteB_f (by decide) ?_ | (refine Duo.mk (by first | omega | exact rfl | decide) ?_; intros) | (refine Duo.mk (Clo.mk (by kernel_rfl)) ?_; intros)))
    refine assertOk_same (by kernel_rfl) ?_
    (repeat (first | (refine Step.go ?_; intros) | refine iteB_t (by decide) ?_ | refine iteB_f (by decide) ?_ | (refine Duo.mk (by first | omega | exact rfl | decide) ?_; intros) | (refine Duo.mk (Clo.mk (by kernel_rfl)) ?_; intros)))
    exact ⟨rfl, Sat.grown⟩
  | byt h1 h2 =>
    cases hj with
    | byt h3 h4 =>
      (repeat (first | (refine Step.go ?_; intros) | refine iteB_t (by decide) ?_ | refine iteB_f (by decide) ?_ | (refine Duo.mk (by first | omega | exact rfl | decide) ?_; intros) | (refine Duo.mk (Clo.mk (by kernel_rfl)) ?_; intros)))
      refine assertOk_ne (z := .string ⟨#[]⟩) (by decide) (by kernel_rfl) (by kernel_rfl) ?_
      (repeat (first | (refine Step.go ?_; intros) | refine iteB_t (by decide) ?_ | refine iteB_f (by decide) ?_ | (refine Duo.mk (by first | omega | exact rfl | decide) ?_; intros) | (refine Duo.mk (Clo.mk (by kernel_rfl)) ?_; intros)))
      refine assertOk_ne (z := .string ⟨#[]⟩) (by decide) (by kernel_rfl) (by kernel_rfl) ?_
      (repeat (first | (refine Step.go ?_; intros) | refine iteB_t (by decide) ?_ | refine iteB_f (by decide) ?_ | (refine Duo.mk (by first | omega | exact rfl | decide) ?_; intros) | (refine Duo.mk (Clo.mk (by kernel_rfl)) ?_; intros)))
      refine assertOk_same (by kernel_rfl) ?_
      (repeat (first | (refine Step.go ?_; intros) | refine iteB_t (by decide) ?_ | refine iteB_f (by decide) ?_ | (refine Duo.mk (by first | omega | exact rfl | decide) ?_; intros) | (refine Duo.mk (Clo.mk (by kernel_rfl)) ?_; intros)))
      refine bsD_of h1 (cellsAt_ext h2 Sat.grown) ?_
      (repeat (first | (refine Step.go ?_; intros) | refine iteB_t (by decide) ?_ | refine iteB_f (by decide) ?_ | (refine Duo.mk (by first | omega | exact rfl | decide) ?_; intros) | (refine Duo.mk (Clo.mk (by kernel_rfl)) ?_; intros)))
      refine F52.L0_step ?_
      unfold F52.L0n
      (repeat (first | (refine Step.go ?_; intros) | refine iteB_t (by decide) ?_ | refine iteB_f (by decide) ?_ | (refine Duo.mk (by first | omega | exact rfl | decide) ?_; intros) | (refine Duo.mk (Clo.mk (by kernel_rfl)) ?_; intros)))
      refine assertOk_ne (z := .string ⟨#[]⟩) (by decide) (by kernel_rfl) (by kernel_rfl) ?_
      (repeat (first | (refine Step.go ?_; intros) | refine iteB_t (by decide) ?_ | refine iteB_f (by decide) ?_ | (refine Duo.mk (by first | omega | exact rfl | decide) ?_; intros) | (refine Duo.mk (Clo.mk (by kernel_rfl)) ?_; intros)))
      refine assertOk_ne (z := .string ⟨#[]⟩) (by decide) (by kernel_rfl) (by kernel_rfl) ?_
      (repeat (first | (refine Step.go ?_; intros) | refine iteB_t (by decide) ?_ | refine iteB_f (by decide) ?_ | (refine Duo.mk (by first | omega | exact rfl | decide) ?_; intros) | (refine Duo.mk (Clo.mk (by kernel_rfl)) ?_; intros)))
      refine assertOk_same (by kernel_rfl) ?_
      (repeat (first | (refine Step.go ?_; intros) | refine iteB_t (by decide) ?_ | refine iteB_f (by decide) ?_ | (refine Duo.mk (by first | omega | exact rfl | decide) ?_; intros) | (refine Duo.mk (Clo.mk (by kernel_rfl)) ?_; intros)))
      refine bsD_of h3 (cellsAt_ext h4 Sat.grown) ?_
      (repeat (first | (refine Step.go ?_; intros) | refine iteB_t (by decide) ?_ | refine iteB_f (by decide) ?_ | (refine Duo.mk (by first | omega | exact rfl | decide) ?_; intros) | (refine Duo.mk (Clo.mk (by kernel_rfl)) ?_; intros)))
      exact ⟨rfl, Sat.grown⟩
  | num h1 =>
    cases hj with
    | num h3 =>
      (repeat (first | (refine Step.go ?_; intros) | refine iteB_t (by decide) ?_ | refine iteB_f (by decide) ?_ | (refine Duo.mk (by first | omega | exact rfl | decide) ?_; intros) | (refine Duo.mk (Clo.mk (by kernel_rfl)) ?_; intros)))
      refine assertOk_ne (z := .string ⟨#[]⟩) (by decide) (by kernel_rfl) (by kernel_rfl) ?_
      (repeat (first | (refine Step.go ?_; intros) | refine iteB_t (by decide) ?_ | refine iteB_f (by decide) ?_ | (refine Duo.mk (by first | omega | exact rfl | decide) ?_; intros) | (refine Duo.mk (Clo.mk (by kernel_rfl)) ?_; intros)))
      refine assertOk_ne (z := .string ⟨#[]⟩) (by decide) (by kernel_rfl) (by kernel_rfl) ?_
      (repeat (first | (refine Step.go ?_; intros) | refine iteB_t (by decide) ?_ | refine iteB_f (by decide) ?_ | (refine Duo.mk (by first | omega | exact rfl | decide) ?_; intros) | (refine Duo.mk (Clo.mk (by kernel_rfl)) ?_; intros)))
      refine assertOk_ne (z := .slice none 0 0) (by decide) (by kernel_rfl) (by kernel_rfl) ?_
      (repeat (first | (refine Step.go ?_; intros) | refine iteB_t (by decide) ?_ | refine iteB_f (by decide) ?_ | (refine Duo.mk (by first | omega | exact rfl | decide) ?_; intros) | (refine Duo.mk (Clo.mk (by kernel_rfl)) ?_; intros)))
      refine assertOk_same (by kernel_rfl) ?_
      (repeat (first | (refine Step.go ?_; intros) | refine iteB_t (by decide) ?_ | refine iteB_f (by decide) ?_ | (refine Duo.mk (by first | omega | exact rfl | decide) ?_; intros) | (refine Duo.mk (Clo.mk (by kernel_rfl)) ?_; intros)))
      refine F52.L0_step ?_
      unfold F52.L0n
      (repeat (first | (refine Step.go ?_; intros) | refine iteB_t (by decide) ?_ | refine iteB_f (by decide) ?_ | (refine Duo.mk (by first | omega | exact rfl | decide) ?_; intros) | (refine Duo.mk (Clo.mk (by kernel_rfl)) ?_; intros)))
      refine assertOk_ne (z := .string ⟨#[]⟩) (by decide) (by kernel_rfl) (by kernel_rfl) ?_
      (repeat (first | (refine Step.go ?_; intros) | refine iteB_t (by decide) ?_ | refine iteB_f (by decide) ?_ | (refine Duo.mk (by first | omega | exact rfl | decide) ?_; intros) | (refine Duo.mk (Clo.mk (by kernel_rfl)) ?_; intros)))
      refine assertOk_ne (z := .string ⟨#[]⟩) (by decide) (by kernel_rfl) (by kernel_rfl) ?_
      (repeat (first | (refine Step.go ?_; intros) | refine iteB_t (by decide) ?_ | refine iteB_f (by decide) ?_ | (refine Duo.mk (by first | omega | exact rfl | decide) ?_; intros) | (refine Duo.mk (Clo.mk (by kernel_rfl)) ?_; intros)))
      refine assertOk_ne (z := .slice none 0 0) (by decide) (by kernel_rfl) (by kernel_rfl) ?_
      (repeat (first | (refine Step.go ?_; intros) | refine iteB_t (by decide) ?_ | refine iteB_f (by decide) ?_ | (refine Duo.mk (by first | omega | exact rfl | decide) ?_; intros) | (refine Duo.mk (Clo.mk (by kernel_rfl)) ?_; intros)))
      refine assertOk_same (by kernel_rfl) ?_
      (repeat (first | (refine Step.go ?_; intros) | refine iteB_t (by decide) ?_ | refine iteB_f (by decide) ?_ | (refine Duo.mk (by first | omega | exact rfl | decide) ?_; intros) | (refine Duo.mk (Clo.mk (by kernel_rfl)) ?_; intros)))
      exact ⟨rfl, Sat.grown⟩
theorem cellsAt_one {r : Nat} {cs : List Value} {T : TypeId} {fr : Nat × Nat} (h : H[r]? = some (.cells ⟨cs⟩ T fr)) : cellsAt H (some ⟨r, 0, none⟩) cs := by
  intro j v hj
  refine ⟨_, rfl, ?_⟩
  rw [add_mk, Nat.zero_add]
  exact hcell_of h hj
end
end Go.Proofs.Ytobolifgehagfaa

set_option linter.unusedVariables false
set_option linter.unusedSimpArgs false
set_option linter.unnecessarySimpa false
namespace Go.Proofs.Ytobolifgehagfaa
open Go Go.Den Go.Proofs
abbrev opC (k : Int) (s : SP) (v m : Int) (p : Option Addr) (pn pc : Nat) (q : Option Addr) (qn qc : Nat) : List Value := [.int .i64 k, .string s.b, .string s.e, .bool s.p, .int .i64 s.f, .int .i64 s.t, .int .i64 v, .int .i64 m, .slice p pn pc, .slice q qn qc]
/-- What a tree keeps to. -/
structure Wt (o : Int) (T : Tr) : Prop where
  rb : RB T
  srt : Srt o T.inL
  prop : ∀ it ∈ T.inL, ltE o it.B it.E = true
def vl (it : It) : Int := match it.v with | .mk _ (.int _ n) => n | _ => 0
def ValI (it : It) : Prop := it.v = .mk 3 (.int .i64 (vl it))
theorem Wt.ins {o : Int} {T : Tr} (h : Wt o T) {z : It} (hz : ltE o z.B z.E = true) : Wt o (ins o z T) ∧ (ins o z T).inL = putI o z T.inL := by
  obtain ⟨a, b⟩ := ins_ok (z := z) h.rb h.srt
  refine ⟨⟨a, by rw [b]; exact putI_srt h.srt, fun it hit => ?_⟩, b⟩
  rw [b] at hit
  rcases putI_mem.1 hit with rfl | hit
  · exact hz
  · exact h.prop it hit
section
variable {H : Heap} {l : List HP} {g : PH} {o : Int} {sr b tp : Nat} {T : Tr} {n : Int} {s : SP} {v m : Int} {p q : Option Addr} {pn pc qn qc : Nat}
end
end Go.Proofs.Ytobolifgehagfaa

set_option linter.unusedVariables false
set_option linter.unusedSimpArgs false
set_option linter.unnecessarySimpa false
namespace Go.Proofs.Ytobolifgehagfaa
open Go Go.Den Go.Proofs
/-! Trees as they are played. -/
structure OPr where
  k : Int
  s : SP
  v : Int
  m : Int
  p : Option Addr
  pn : Nat
  pc : Nat
  q : Option Addr
  qn : Nat
  qc : Nat
abbrev OPr.cells (x : OPr) : List Value := opC x.k x.s x.v x.m x.p x.pn x.pc x.q x.qn x.qc
structure TA where
  ok : Bool
  x : Int
  y : Int
  lp : Option Addr
  ln : Nat
  lc : Nat
  vp : Option Addr
  vn : Nat
  vc : Nat
abbrev TA.cells (a : TA) : List Value := [.bool a.ok, .int .i64 a.x, .int .i64 a.y, .slice a.lp a.ln a.lc, .slice a.vp a.vn a.vc]
/-- An entry of the plain list. -/
def Rl (it : It) (x : SP × Int) : Prop := it.B = x.1.B ∧ it.E = x.1.E ∧ it.v = .mk 3 (.int .i64 x.2)
def putP (o : Int) (z : SP × Int) : List (SP × Int) → List (SP × Int)
  | [] => [z]
  | x :: l => if aheadS o z.1 x.1 then z :: x :: l else x :: putP o z l
inductive All2 {α β : Type} (R : α → β → Prop) : List α → List β → Prop
  | nil : All2 R [] []
  | cons {a : α} {b : β} {l : List α} {m : List β} : R a b → All2 R l m → All2 R (a :: l) (b :: m)
theorem goL_ahead {o : Int} {z it : It} {x y : SP × Int} (h : Rl z x) (h2 : Rl it y) : goL o z.B z.E it = aheadS o x.1 y.1 := by
  unfold goL aheadS
  rw [h.1, h.2.1, h2.1, h2.2.1]
theorem put_rel {o : Int} {z : It} {x : SP × Int} (hz : Rl z x) : ∀ {l : List It} {m : List (SP × Int)}, All2 Rl l m → All2 Rl (putI o z l) (putP o x m)
  | _, _, .nil => .cons hz .nil
  | _, _, .cons (a := a) (b := b) h1 h2 => by
    rw [putI, putP, goL_ahead hz h1]
    split
    · exact .cons hz (.cons h1 h2)
    · exact .cons h1 (put_rel hz h2)
theorem All2.len {α β : Type} {R : α → β → Prop} : ∀ {l : List α} {m : List β}, All2 R l m → l.length = m.length
  | _, _, .nil => rfl
  | _, _, .cons _ h => by simp [h.len]
theorem All2.mem {α β : Type} {R : α → β → Prop} : ∀ {l : List α} {m : List β}, All2 R l m → ∀ a ∈ l, ∃ b ∈ m, R a b
  | _, _, .cons (a := a) (b := b) h1 h2, x, hx => by
    rcases List.mem_cons.1 hx with rfl | hx
    · exact ⟨b, by simp, h1⟩
    · obtain ⟨c, h3, h4⟩ := h2.mem x hx
      exact ⟨c, by simp [h3], h4⟩
theorem Rl.val {it : It} {x : SP × Int} (h : Rl it x) : ValI it := by
  unfold ValI vl
  rw [h.2.2]
theorem Rl.vl {it : It} {x : SP × Int} (h : Rl it x) : vl it = x.2 := by
  unfold Go.Proofs.Ytobolifgehagfaa.vl
  rw [h.2.2]
/-- What the plain law asks of an interval. -/
def GoodX (o : Int) (x : SP × Int) : Prop := Sz x.1 ∧ NumOk o x.1 ∧ ltE o x.1.B x.1.E = true
section
variable {H : Heap} {l : List HP} {o : Int}
/-- The state behind some intervals. -/
structure TrSt (o : Int) (T : Tr) (L : List (SP × Int)) : Prop where
  wt : Wt o T
  rel : All2 Rl T.inL L
theorem TrSt.nil : TrSt o .nil [] := ⟨⟨⟨⟨0, rfl⟩, trivial, rfl⟩, List.Pairwise.nil, fun _ h => by cases h⟩, .nil⟩
theorem TrSt.ins {T : Tr} {L : List (SP × Int)} (h : TrSt o T L) {x : SP × Int} (hx : ltE o x.1.B x.1.E = true) {z : It} (hz : Rl z x) : TrSt o (ins o z T) (putP o x L) := by
  obtain ⟨a, b⟩ := h.wt.ins (z := z) (by rw [hz.1, hz.2.1]; exact hx)
  exact ⟨a, by rw [b]; exact put_rel hz h.rel⟩
theorem TrSt.len {T : Tr} {L : List (SP × Int)} (h : TrSt o T L) : T.inL.length = L.length := h.rel.len
theorem putP_len {z : SP × Int} : ∀ L : List (SP × Int), (putP o z L).length = L.length + 1
  | [] => rfl
  | x :: L => by
    rw [putP]
    split
    · simp
    · simp [putP_len L]
end
end Go.Proofs.Ytobolifgehagfaa

set_option linter.unusedVariables false
set_option linter.unusedSimpArgs false
set_option linter.unnecessarySimpa false
namespace Go.Proofs.Ytobolifgehagfaa
open Go Go.Den Go.Proofs
/-! What is asked last. -/
theorem All2.filter {α β : Type} {R : α → β → Prop} {f : α → Bool} {h : β → Bool} (e : ∀ a b, R a b → f a = h b) : ∀ {l : List α} {m : List β}, All2 R l m → All2 R (l.filter f) (m.filter h)
  | _, _, .nil => .nil
  | _, _, .cons (a := a) (b := b) h1 h2 => by
    rw [List.filter_cons, List.filter_cons, e a b h1]
    split
    · exact .cons h1 (h2.filter e)
    · exact h2.filter e
theorem All2.map_eq {α β γ : Type} {R : α → β → Prop} {f : α → γ} {h : β → γ} (e : ∀ a b, R a b → f a = h b) : ∀ {l : List α} {m : List β}, All2 R l m → l.map f = m.map h
  | _, _, .nil => rfl
  | _, _, .cons (a := a) (b := b) h1 h2 => by rw [List.map_cons, List.map_cons, e a b h1, h2.map_eq e]
def meetX (o : Int) (s : SP) (x : SP × Int) : Bool := meetS o x.1 s
def outX (o : Int) (x : SP × Int) : SP := outS o x.1.B x.1.E
section
variable {H : Heap} {l : List HP} {o : Int} {T : Tr} {L : List (SP × Int)} {s : SP}
theorem TrSt.vis (h : TrSt o T L) (hs : ltE o s.B s.E = true) : (vis o s.B s.E T).map (fun it => outS o it.B it.E) = (L.filter (meetX o s)).map (outX o) ∧ (Go.Proofs.Ytobolifgehagfaa.vis o s.B s.E T).map vl = (L.filter (meetX o s)).map (·.2) ∧ (Go.Proofs.Ytobolifgehagfaa.vis o s.B s.E T).length = (L.filter (meetX o s)).length := by
  rw [vis_ok hs T h.wt.srt h.wt.prop]
  have r := h.rel.filter (f := meetI o s.B s.E) (h := meetX o s) (fun a b r => by
    unfold meetI meetX meetS
    rw [r.1, r.2.1, Bool.and_comm])
  refine ⟨r.map_eq (fun a b r => by unfold outX; rw [r.1, r.2.1]), r.map_eq (fun a b r => r.vl), r.len⟩
theorem TrSt.val (h : TrSt o T L) : ∀ it ∈ T.inL, ValI it := by
  intro it hit
  obtain ⟨x, _, hx⟩ := h.rel.mem it hit
  exact hx.val
theorem has_nothing (S : Sat H l) : Sat H (has (fun _ => none) :: l) := by
  have h1 : has (fun _ => none) (fun _ => none) := fun b o e => by cases e
  have h2 : PH.sub (fun _ => none) (PH.of H) := fun b o e => by cases e
  exact ⟨fun _ => none, h1, h2, S.out.mono fun b o e => by rw [PH.minus_none rfl]; exact e⟩
section
variable {xs : List (SP × Int)} {p : Option Addr} {n c : Nat} {v m : Int} (ho : 0 ≤ o ∧ o ≤ 3) (hg : ∀ x ∈ xs, GoodX o x) (hx : xs.length ≤ 1000) (hs : GoodX o (s, 0))
include ho hg hx hs
end
end
end Go.Proofs.Ytobolifgehagfaa
