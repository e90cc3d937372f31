/- What functions of this seat do, each proved by a walk; no condition. -/
import Derived.Test.YtobolifgehagfaaGreatRB
import Derived.Test.YtobolifgehagfaaGreatRC
set_option linter.unusedVariables false
set_option linter.unusedSimpArgs false
set_option linter.unnecessarySimpa false
namespace Go.Proofs.YtobolifgehagfaaGreat
open Go Go.Den Go.Proofs
abbrev unitF (_ : Unit) : Value := .agg ⟨[]⟩
abbrev mpI (o : Nat) : Value := .map (some o)
theorem um : Tryz.prog.underlying 94 = some (.map 117 154) := by kernel_rfl
theorem uw : Tryz.prog.underlying 117 = some (.pointer 123) := by kernel_rfl
theorem iw : Tryz.prog.info? 123 = some Tryz.t123 := by kernel_rfl
theorem PM1 : PtrMap Tryz.prog 94 117 154 123 Tryz.t123 (.agg ⟨[]⟩) := ⟨um, uw, iw, by decide, by kernel_rfl⟩
instance MT1 : MapT Tryz.prog 90 Value.string mpI (.map none) := ⟨⟨9, 94, by kernel_rfl, KeyT.string (by kernel_rfl), by kernel_rfl⟩⟩
instance MT2 : MapT Tryz.prog 98 (Value.int .i64) ptrK (.pointer none) := ⟨⟨2, 117, by kernel_rfl, KeyT.int (by kernel_rfl), by kernel_rfl⟩⟩
instance EncM {o : Nat} : EncV mpI (.map (some o)) o := ⟨rfl⟩
instance EncP {o : Nat} : EncV ptrK (.pointer (some ⟨o, 0, none⟩)) o := ⟨rfl⟩
abbrev watO (kb kc : Nat) (m id : Int) (ch : Nat) : Obj := .cells ⟨[.slice (some (aA kb)) 1 kc, .slice none 0 0, .bool false, .bool false, .bool false, .int .i64 0, .int .i64 m, .int .i64 id, .slice none 0 0, .chan (some ch)]⟩ 123
abbrev treO0 (sr : Nat) : Obj := .cells ⟨[pA sr, .int .i64 0, pA sr]⟩ 149
abbrev grO (km tp wm im : Nat) : Obj := .cells ⟨[.map (some km), .iface 147 (pA tp), .map (some wm), .map (some im)]⟩ 100
section
variable {H H0 : Heap} {l : List HP}
theorem newGroup_ok (S : Sat H l) : CallsH Tryz.prog 23 ⟨[]⟩ H (fun e H1 => ∃ z km tp wm im sr, e = .returned (pA z) ∧ Sat H1 (pt z (grO km tp wm im) :: mp Value.string mpI km [] :: mp ptrK unitF wm [] :: mp (Value.int .i64) ptrK im [] :: pt tp (treO0 sr) :: l)) := by
  refine F23.calls ?_
  unfold F23.go
  have inner : CallsH Tryz.prog 35 ⟨[]⟩ H (fun e H1 => ∃ km tp wm sr, e = .returned (.agg ⟨[.map (some km), .iface 147 (pA tp), .map (some wm)]⟩) ∧ Sat H1 (pt km (.map #[] 0) :: pt wm (.map #[] 0) :: pt tp (treO0 sr) :: l)) := by
    refine F35.calls ?_
    unfold F35.go
    refine Step.go ?_
    intro r H1 S1
    refine Step.go ?_
    intro km H2 S2
    clear S S1
    have tree : CallsH Tryz.prog 51 ⟨[]⟩ H2 (fun e H1 => ∃ x : Nat × Nat, e = .returned (.iface 147 (pA x.1)) ∧ Sat H1 ([pt x.1 (treO0 x.2)] ++ [old H2])) := by
      have S := Sat.start H2
      clear S2
      refine F51.calls ?_
      unfold F51.go
      (repeat (first | (refine Step.go ?_; intros) | refine iteB_t (by decide) ?_ | refine iteB_f (by decide) ?_ | (refine Duo.mk (by first | omega | exact rfl | decide) ?_; intros)))
      rename_i sr H3 S3 tp H4 S4
      refine ⟨(tp, sr), rfl, S4.to ?_⟩
      iterate 2 (apply Ent.pick; (focus (repeat (first | exact Sel.here | apply Sel.there))))
      exact Ent.nil
    refine grow_i S2 tree ?_
    rintro ⟨tp, sr⟩ H3 E3 S3
    dsimp only [List.cons_append, List.nil_append] at S3 ⊢
    clear S2
    (repeat (first | (refine Step.go ?_; intros) | refine iteB_t (by decide) ?_ | refine iteB_f (by decide) ?_ | (refine Duo.mk (by first | omega | exact rfl | decide) ?_; intros)))
    show guardB true _
    (repeat (first | (refine Step.go ?_; intros) | refine iteB_t (by decide) ?_ | refine iteB_f (by decide) ?_ | (refine Duo.mk (by first | omega | exact rfl | decide) ?_; intros)))
    have S9 := ‹Sat _ _›
    refine ⟨km, tp, _, sr, rfl, S9.to ?_⟩
    iterate 3 (apply Ent.pick; (focus (repeat (first | exact Sel.here | apply Sel.there))))
    exact Ent.drop Ent.refl
  refine callD_i inner ?_
  rintro _ H1 ⟨km, tp, wm, sr, rfl, S1⟩
  clear S
  (repeat (first | (refine Step.go ?_; intros) | refine iteB_t (by decide) ?_ | refine iteB_f (by decide) ?_ | (refine Duo.mk (by first | omega | exact rfl | decide) ?_; intros)))
  rename_i im H2 S2 z H3 S3
  have S4 : Sat H3 (pt km (.map #[] 0) :: pt z (grO km tp wm im) :: pt wm (.map #[] 0) :: pt im (.map #[] 0) :: pt tp (treO0 sr) :: l) := by
    refine S3.to ?_
    iterate 5 (apply Ent.pick; (focus (repeat (first | exact Sel.here | apply Sel.there))))
    exact Ent.refl
  have S5 := S4.mpNew Value.string mpI
  have S6 : Sat H3 (pt wm (.map #[] 0) :: mp Value.string mpI km [] :: pt z (grO km tp wm im) :: pt im (.map #[] 0) :: pt tp (treO0 sr) :: l) := by
    refine S5.to ?_
    iterate 5 (apply Ent.pick; (focus (repeat (first | exact Sel.here | apply Sel.there))))
    exact Ent.refl
  have S7 := S6.mpNew ptrK unitF
  have S8 : Sat H3 (pt im (.map #[] 0) :: mp ptrK unitF wm [] :: mp Value.string mpI km [] :: pt z (grO km tp wm im) :: pt tp (treO0 sr) :: l) := by
    refine S7.to ?_
    iterate 5 (apply Ent.pick; (focus (repeat (first | exact Sel.here | apply Sel.there))))
    exact Ent.refl
  have S9 := S8.mpNew (Value.int .i64) ptrK
  refine ⟨z, km, tp, wm, im, sr, rfl, S9.to ?_⟩
  iterate 5 (apply Ent.pick; (focus (repeat (first | exact Sel.here | apply Sel.there))))
  exact Ent.refl
def plainG (g : PH) (r : Nat) : Prop := ∃ c T z, g r = some (.cells c T (z, z))
theorem plainG.at_ {g : PH} {r : Nat} (h : plainG g r) (hs : PH.sub g (PH.of H)) : plainB H r := by
  obtain ⟨c, T, z, e⟩ := h
  exact ⟨c, T, z, hs _ _ e⟩
theorem setAdd_ok {g : PH} {w r : Nat} (hr : plainG g r) (S : Sat H (mp ptrK unitF w [] :: has g :: l)) : CallsH Tryz.prog 62 ⟨[.map (some w), pA r]⟩ H (fun e H1 => e = .returned (.tuple ⟨[]⟩) ∧ Sat H1 (mp ptrK unitF w [(r, ())] :: has g :: l)) := by
  have hs : PH.sub g (PH.of H) := HasG.sub (l := mp ptrK unitF w [] :: has g :: l) inferInstance S
  refine F62.calls ?_
  unfold F62.go
  refine Sat.lookupK (r := r) PM1 S (List.mem_cons_self ..) (hr.at_ hs) (fun x hx => by cases hx) (fun v hv => by cases hv) (fun _ => ?_)
  show tTup (.tuple ⟨[.agg ⟨[]⟩, .bool false]⟩) _
  (repeat (first | (refine Step.go ?_; intros) | refine iteB_t (by decide) ?_ | refine iteB_f (by decide) ?_ | (refine Duo.mk (by first | omega | exact rfl | decide) ?_; intros)))
  rename_i r2 H2 S2
  have S3 : Sat H2 (mp ptrK unitF w [] :: has g :: l) := by
    refine S2.to ?_
    iterate 2 (apply Ent.pick; (focus (repeat (first | exact Sel.here | apply Sel.there))))
    exact Ent.drop Ent.refl
  have hs2 : PH.sub g (PH.of H2) := HasG.sub (l := mp ptrK unitF w [] :: has g :: l) inferInstance S3
  refine S3.mpSetK PM1 (hr.at_ hs2) (fun x hx => by cases hx) rfl () fun H3 S4 => ?_
  exact ⟨rfl, S4⟩
theorem keyAdd_ok {g : PH} {km r kb kc ch : Nat} {m id : Int} {kr : List Value} {kf : Nat × Nat} (hr : g r = some (watO kb kc m id ch)) (hk : g kb = some (.cells ⟨bytesOf [107] ++ kr⟩ 5 kf)) (S : Sat H (mp Value.string mpI km [] :: has g :: l)) : CallsH Tryz.prog 63 ⟨[.map (some km), pA r]⟩ H (fun e H1 => e = .returned (.tuple ⟨[]⟩) ∧ ∃ w, Sat H1 (mp ptrK unitF w [(r, ())] :: mp Value.string mpI km [(ByteArray.mk #[107], w)] :: has g :: l)) := by
  have hs : PH.sub g (PH.of H) := HasG.sub (l := mp Value.string mpI km [] :: has g :: l) inferInstance S
  refine F63.calls ?_
  unfold F63.go
  have B1 : Blc H r _ := ⟨hs _ _ hr⟩
  (repeat (first | (refine Step.go ?_; intros) | refine iteB_t (by decide) ?_ | refine iteB_f (by decide) ?_ | (refine Duo.mk (by first | omega | exact rfl | decide) ?_; intros)))
  refine ⟨[107], rfl, cellsAt_block (s := ByteArray.mk #[107]) (hs _ _ hk), ?_⟩
  refine Step.go ?_
  refine Duo.mk (fun v hv => by cases hv) (fun _ => ?_)
  (repeat (first | (refine Step.go ?_; intros) | refine iteB_t (by decide) ?_ | refine iteB_f (by decide) ?_ | (refine Duo.mk (by first | omega | exact rfl | decide) ?_; intros)))
  rename_i w H2 S2
  have hs2 : PH.sub g (PH.of H2) := HasG.sub (l := pt w (.map #[] 0) :: mp Value.string mpI km [] :: has g :: l) inferInstance S2
  have B2 : Blc H2 r _ := ⟨hs2 _ _ hr⟩
  (repeat (first | (refine Step.go ?_; intros) | refine iteB_t (by decide) ?_ | refine iteB_f (by decide) ?_ | (refine Duo.mk (by first | omega | exact rfl | decide) ?_; intros)))
  refine ⟨[107], rfl, cellsAt_block (s := ByteArray.mk #[107]) (hs2 _ _ hk), ?_⟩
  refine Step.go ?_
  intro H3 S3
  have S4 := S3.mpNew ptrK unitF
  have S5 : Sat H3 (mp ptrK unitF w [] :: has g :: mp Value.string mpI km [(ByteArray.mk #[107], w)] :: l) := by
    refine S4.to ?_
    iterate 3 (apply Ent.pick; (focus (repeat (first | exact Sel.here | apply Sel.there))))
    exact Ent.refl
  clear S S2 S3 S4
  refine callD_i (setAdd_ok (r := r) ⟨_, _, 0, hr⟩ S5) ?_
  rintro _ H4 ⟨rfl, S6⟩
  (repeat (first | (refine Step.go ?_; intros) | refine iteB_t (by decide) ?_ | refine iteB_f (by decide) ?_ | (refine Duo.mk (by first | omega | exact rfl | decide) ?_; intros)))
  refine ⟨rfl, w, S6.to ?_⟩
  iterate 3 (apply Ent.pick; (focus (repeat (first | exact Sel.here | apply Sel.there))))
  exact Ent.refl
end
end Go.Proofs.YtobolifgehagfaaGreat

set_option linter.unusedVariables false
set_option linter.unusedSimpArgs false
set_option linter.unnecessarySimpa false
namespace Go.Proofs.YtobolifgehagfaaGreat
open Go Go.Den Go.Proofs
section
variable {H H0 : Heap} {l : List HP}
abbrev grp0 (z km tp wm im sr : Nat) (l : List HP) : List HP := pt z (grO km tp wm im) :: mp Value.string mpI km [] :: mp ptrK unitF wm [] :: mp (Value.int .i64) ptrK im [] :: pt tp (treO0 sr) :: l
abbrev grp1 (z km tp wm im sr w r : Nat) (g : PH) (l : List HP) : List HP := pt z (grO km tp wm im) :: mp Value.string mpI km [(ByteArray.mk #[107], w)] :: mp ptrK unitF w [(r, ())] :: mp ptrK unitF wm [(r, ())] :: mp (Value.int .i64) ptrK im [(3, r)] :: pt tp (treO0 sr) :: has g :: l
theorem grpAdd_ok {g : PH} {z km tp wm im sr r kb kc ch : Nat} {m id : Int} {kr : List Value} {kf : Nat × Nat} {M : List (Int × Nat)} (hr : g r = some (watO kb kc m id ch)) (hk : g kb = some (.cells ⟨bytesOf [107] ++ kr⟩ 5 kf))
    (S : Sat H (pt z (grO km tp wm im) :: mp Value.string mpI km [] :: mp ptrK unitF wm [] :: mp (Value.int .i64) ptrK im M :: pt tp (treO0 sr) :: has g :: l)) :
    CallsH Tryz.prog 53 ⟨[pA z, pA r]⟩ H (fun e H1 => e = .returned (.tuple ⟨[]⟩) ∧ ∃ w, Sat H1 (pt z (grO km tp wm im) :: mp Value.string mpI km [(ByteArray.mk #[107], w)] :: mp ptrK unitF w [(r, ())] :: mp ptrK unitF wm [(r, ())] :: mp (Value.int .i64) ptrK im M :: pt tp (treO0 sr) :: has g :: l)) := by
  refine F53.calls ?_
  unfold F53.go
  (repeat (first | (refine Step.go ?_; intros) | refine iteB_t (by decide) ?_ | refine iteB_f (by decide) ?_ | (refine Duo.mk (by first | omega | exact rfl | decide) ?_; intros)))
  have S1 : Sat H (mp ptrK unitF wm [] :: has g :: pt z (grO km tp wm im) :: mp Value.string mpI km [] :: mp (Value.int .i64) ptrK im M :: pt tp (treO0 sr) :: l) := by
    refine S.to ?_
    iterate 6 (apply Ent.pick; (focus (repeat (first | exact Sel.here | apply Sel.there))))
    exact Ent.refl
  clear S
  refine callD_i (setAdd_ok (r := r) ⟨_, _, 0, hr⟩ S1) ?_
  rintro _ H2 ⟨rfl, S2⟩
  clear S1
  have hs : PH.sub g (PH.of H2) := HasG.sub (l := mp ptrK unitF wm [(r, ())] :: has g :: pt z (grO km tp wm im) :: mp Value.string mpI km [] :: mp (Value.int .i64) ptrK im M :: pt tp (treO0 sr) :: l) inferInstance S2
  have B1 : Blc H2 r _ := ⟨hs _ _ hr⟩
  (repeat (first | (refine Step.go ?_; intros) | refine iteB_t (by decide) ?_ | refine iteB_f (by decide) ?_ | (refine Duo.mk (by first | omega | exact rfl | decide) ?_; intros)))
  have S3 : Sat H2 (mp Value.string mpI km [] :: has g :: pt z (grO km tp wm im) :: mp ptrK unitF wm [(r, ())] :: mp (Value.int .i64) ptrK im M :: pt tp (treO0 sr) :: l) := by
    refine S2.to ?_
    iterate 6 (apply Ent.pick; (focus (repeat (first | exact Sel.here | apply Sel.there))))
    exact Ent.refl
  clear S2
  refine callD_i (keyAdd_ok hr hk S3) ?_
  rintro _ H3 ⟨rfl, w, S4⟩
  (repeat (first | (refine Step.go ?_; intros) | refine iteB_t (by decide) ?_ | refine iteB_f (by decide) ?_ | (refine Duo.mk (by first | omega | exact rfl | decide) ?_; intros)))
  refine ⟨rfl, w, S4.to ?_⟩
  iterate 7 (apply Ent.pick; (focus (repeat (first | exact Sel.here | apply Sel.there))))
  exact Ent.refl
theorem zzAdd_ok {z km tp wm im sr kb kc : Nat} {kr : List Value} {kf : Nat × Nat} (S : Sat H (pt kb (.cells ⟨bytesOf [107] ++ kr⟩ 5 kf) :: grp0 z km tp wm im sr l)) :
    CallsH Tryz.prog 38 ⟨[pA z, .int .i64 3, .slice (some (aA kb)) 1 kc, .slice none 0 0, .int .i64 0]⟩ H (fun e H1 => e = .returned (.tuple ⟨[]⟩) ∧ ∃ w r g ch, g r = some (watO kb kc 0 3 ch) ∧ g kb = some (.cells ⟨bytesOf [107] ++ kr⟩ 5 kf) ∧ Sat H1 (grp1 z km tp wm im sr w r g l)) := by
  refine F38.calls ?_
  unfold F38.go
  refine S.mkChan (t := 119) (el := 189) (d := .both) (ie := Tryz.t189) (by kernel_rfl) (by kernel_rfl) (by omega) (by omega) (by decide) fun ch H1 S1 => ?_
  clear S
  refine ⟨_, rfl, ?_⟩
  refine Step.go ?_
  intro r H2 S2
  clear S1
  obtain ⟨S3, _, g1⟩ := has_put ((has_nothing S2).to (by
    apply Ent.pick
    · exact Sel.there Sel.here
    exact Ent.refl))
  obtain ⟨S4, s2, g2⟩ := has_put (S3.to (l := has (put1 (fun _ => none) r _) :: _) (m := pt kb (.cells ⟨bytesOf [107] ++ kr⟩ 5 kf) :: has (put1 (fun _ => none) r (watO kb kc 0 3 ch)) :: grp0 z km tp wm im sr l) (by
    iterate 7 (apply Ent.pick; (focus (repeat (first | exact Sel.here | apply Sel.there))))
    exact Ent.drop Ent.refl))
  have g1' := s2 _ _ g1
  generalize put1 (put1 (fun _ => none) r (watO kb kc 0 3 ch)) kb (.cells ⟨bytesOf [107] ++ kr⟩ 5 kf) = g at S4 g1' g2
  clear S2 S3 g1 s2
  (repeat (first | (refine Step.go ?_; intros) | refine iteB_t (by decide) ?_ | refine iteB_f (by decide) ?_ | (refine Duo.mk (by first | omega | exact rfl | decide) ?_; intros)))
  rename_i H5 S5
  refine callD_i (grpAdd_ok (M := [(3, r)]) (z := z) (km := km) (tp := tp) (wm := wm) (im := im) (sr := sr) (l := l) g1' g2 (S5.to ?_)) ?_
  · iterate 6 (apply Ent.pick; (focus (repeat (first | exact Sel.here | apply Sel.there))))
    exact Ent.refl
  rintro _ H6 ⟨rfl, w, S6⟩
  (repeat (first | (refine Step.go ?_; intros) | refine iteB_t (by decide) ?_ | refine iteB_f (by decide) ?_ | (refine Duo.mk (by first | omega | exact rfl | decide) ?_; intros)))
  exact ⟨rfl, w, r, g, ch, g1', g2, S6⟩
theorem nilV_mk {P : Program} {t : TypeId} {x : Value} {k : Value → Prop} (h : k (.iface t x)) : nilV P (IV.v (.mk t x)) k := h
theorem inner_ok : CallsH Tryz.prog 64 ⟨[.string (ByteArray.mk #[107]), .string (ByteArray.mk #[107, 0])]⟩ H (Gives (.agg ⟨[.iface 181 (.string (ByteArray.mk #[107])), .iface 181 (.string (ByteArray.mk #[107, 0]))]⟩) H) := by
  have S := Sat.start H
  refine F64.calls ?_
  unfold F64.go
  (repeat (first | (refine Step.go ?_; intros) | refine iteB_t (by decide) ?_ | refine iteB_f (by decide) ?_ | (refine Duo.mk (by first | omega | exact rfl | decide) ?_; intros)))
  exact ⟨rfl, Sat.grown⟩
theorem point_ok : CallsH Tryz.prog 67 ⟨[.string (ByteArray.mk #[107])]⟩ H (Gives (.agg ⟨[.iface 181 (.string (ByteArray.mk #[107])), .iface 181 (.string (ByteArray.mk #[107, 0]))]⟩) H) := by
  have S := Sat.start H
  refine F67.calls ?_
  unfold F67.go
  refine Step.go ?_
  intro r H1 S1
  refine ⟨by decide, ?_⟩
  refine gives_i S1 inner_ok fun H2 E2 S2 => ?_
  clear S1 S
  (repeat (first | (refine Step.go ?_; intros) | refine iteB_t (by decide) ?_ | refine iteB_f (by decide) ?_ | (refine Duo.mk (by first | omega | exact rfl | decide) ?_; intros)))
  exact ⟨rfl, Sat.grown⟩
theorem byKey_ok {z km tp wm im sr w r kb kc ch : Nat} {g : PH} (hr : g r = some (watO kb kc 0 3 ch)) (S : Sat H (grp1 z km tp wm im sr w r g l)) :
    CallsH Tryz.prog 42 ⟨[pA z, .string (ByteArray.mk #[107])]⟩ H (fun e H1 => ∃ q c, e = .returned (.slice q 1 c) ∧ Sat H1 (sl (fun n : Int => [.int .i64 n]) 2 1 q 1 c [3] :: l)) := by
  have set : CallsH Tryz.prog 56 ⟨[pA z, .string (ByteArray.mk #[107])]⟩ H (fun e H1 => e = .returned (.map (some w)) ∧ Sat H1 (grp1 z km tp wm im sr w r g l)) := by
    refine F56.calls ?_
    unfold F56.go
    (iterate 2 (refine Step.go ?_; intros))
    refine Step.go ?_
    refine Duo.mk (fun v hv => ?_) (fun hv => by cases hv)
    obtain rfl : w = v := by
      have : mget [(ByteArray.mk #[107], w)] (ByteArray.mk #[107]) = some w := if_pos rfl
      rw [this] at hv; exact Option.some.inj hv
    (repeat (first | (refine Step.go ?_; intros) | refine iteB_t (by decide) ?_ | refine iteB_f (by decide) ?_ | (refine Duo.mk (by first | omega | exact rfl | decide) ?_; intros)))
    refine nilV_mk ?_
    refine gives_i S point_ok fun H2 E2 S2 => ?_
    clear S
    (repeat (first | (refine Step.go ?_; intros) | refine iteB_t (by decide) ?_ | refine iteB_f (by decide) ?_ | (refine Duo.mk (by first | omega | exact rfl | decide) ?_; intros)))
    refine callI_i (f := 127) (by kernel_rfl) (by kernel_rfl) (by kernel_rfl) ?_
    have stab : CallsH Tryz.prog 127 ⟨[pA tp, .agg ⟨[.iface 181 (.string (ByteArray.mk #[107])), .iface 181 (.string (ByteArray.mk #[107, 0]))]⟩]⟩ H2 (fun e H1 => e = .returned (.slice none 0 0) ∧ Sat H1 (grp1 z km tp wm im sr w r g l)) := by
      refine F127.calls (iv_0 := .mk 181 (.string (ByteArray.mk #[107]))) (iv_1 := .mk 181 (.string (ByteArray.mk #[107, 0]))) ?_
      unfold F127.go
      (repeat (first | (refine Step.go ?_; intros) | refine iteB_t (by decide) ?_ | refine iteB_f (by decide) ?_ | (refine Duo.mk (by first | omega | exact rfl | decide) ?_; intros)))
      have S9 := ‹Sat _ _›
      refine ⟨rfl, S9.to ?_⟩
      iterate 7 (apply Ent.pick; (focus (repeat (first | exact Sel.here | apply Sel.there))))
      exact Ent.drop (Ent.drop Ent.refl)
    refine callD_i stab ?_
    rintro _ H3 ⟨rfl, S3⟩
    (repeat (first | (refine Step.go ?_; intros) | refine iteB_t (by decide) ?_ | refine iteB_f (by decide) ?_ | (refine Duo.mk (by first | omega | exact rfl | decide) ?_; intros)))
    exact ⟨rfl, S3⟩
  refine F42.calls ?_
  unfold F42.go
  (repeat (first | (refine Step.go ?_; intros) | refine iteB_t (by decide) ?_ | refine iteB_f (by decide) ?_ | (refine Duo.mk (by first | omega | exact rfl | decide) ?_; intros)))
  refine callD_i set ?_
  rintro _ H1 ⟨rfl, S1⟩
  clear S
  refine ⟨_, rfl, ?_⟩
  have S2 : Sat H1 (mp ptrK unitF w [(r, ())] :: has g :: pt z (grO km tp wm im) :: mp Value.string mpI km [(ByteArray.mk #[107], w)] :: mp ptrK unitF wm [(r, ())] :: mp (Value.int .i64) ptrK im [(3, r)] :: pt tp (treO0 sr) :: l) := by
    refine S1.to ?_
    iterate 7 (apply Ent.pick; (focus (repeat (first | exact Sel.here | apply Sel.there))))
    exact Ent.refl
  clear S1
  obtain ⟨es, clk, F, S3⟩ := S2.mpOpen
  clear S2
  refine rangeNew um S3 fun ir H2 S4 => ?_
  clear S3
  refine ⟨_, rfl, ?_⟩
  have hes : ∃ e, es.toList = [e] ∧ e.key = ptrK r ∧ e.val = unitF () := by
    have he := F.eq
    match h : es.toList, he with
    | [e], he =>
      simp at he
      exact ⟨e, rfl, he.1, he.2⟩
    | [], he => simp at he
    | _ :: _ :: _, he => simp at he
  obtain ⟨e, he, hk, hv⟩ := hes
  have hun : unseen es #[] = [e] := by
    unfold unseen
    rw [he]; simp
  refine F42.L0_step ?_
  unfold F42.L0n
  refine rangeNext F S4 (fun h => by rw [hun] at h; cases h) ?_
  intro a e' b h1 h2 H3 S5
  clear S4
  rw [hun] at h1
  obtain ⟨rfl, rfl, rfl⟩ : a = [] ∧ e' = e ∧ b = [] := by
    cases a with
    | nil => simp at h1; exact ⟨rfl, h1.1.symm, h1.2⟩
    | cons x a => simp at h1
  rw [hk, hv]
  refine ⟨_, rfl, _, _, rfl, _, rfl, ?_⟩
  refine iteB_t rfl ?_
  refine ⟨_, _, rfl, _, rfl, _, _, rfl, _, rfl, rfl, rfl, ?_⟩
  refine rangeEntry F S5 (by rw [he]; exact List.mem_cons_self ..) ?_
  rw [hk, hv]
  refine ⟨_, rfl, _, _, rfl, _, rfl, _, _, rfl, _, rfl, rfl, rfl, ?_⟩
  have hs : PH.sub g (PH.of H3) := HasG.sub (l := pt ir (.mapIter (some w) clk (#[].push e'.born) clk) :: pt w (.map es clk) :: has g :: pt z (grO km tp wm im) :: mp Value.string mpI km [(ByteArray.mk #[107], w)] :: mp ptrK unitF wm [(r, ())] :: mp (Value.int .i64) ptrK im [(3, r)] :: pt tp (treO0 sr) :: l) inferInstance S5
  have B1 : Blc H3 r _ := ⟨hs _ _ hr⟩
  (repeat (first | (refine Step.go ?_; intros) | refine iteB_t (by decide) ?_ | refine iteB_f (by decide) ?_ | (refine Duo.mk (by first | omega | exact rfl | decide) ?_; intros)))
  rename_i rr H4 S6
  clear S5
  have S7 : Sat H4 (sl (fun n : Int => [.int .i64 n]) 2 1 none 0 0 [] :: pt rr (.cells ⟨[.int .i64 3]⟩ 2) :: pt ir (.mapIter (some w) clk (#[].push e'.born) clk) :: pt w (.map es clk) :: l) := by
    refine S6.to (Ent.slNil ?_)
    iterate 3 (apply Ent.pick; (focus (repeat (first | exact Sel.here | apply Sel.there))))
    iterate 6 (refine Ent.drop ?_)
    exact Ent.refl
  refine S7.slApp (ys := [(3 : Int)]) (q := some ⟨rr, 0, none⟩) (d := 1) ?_ rfl (by simp) (by simp [isCell]) rfl (by decide) (by omega) fun q c H5 S8 => ?_
  · simp only [List.flatMap_cons, List.flatMap_nil, List.append_nil]
    exact cellsAt_one (S7.at_ (List.mem_cons_of_mem _ (List.mem_cons_self ..)))
  clear S6 S7
  refine F42.L0_step ?_
  unfold F42.L0n
  have S9 : Sat H5 (pt ir (.mapIter (some w) clk (#[].push e'.born) clk) :: pt w (.map es clk) :: sl (fun n : Int => [.int .i64 n]) 2 1 q 1 c [3] :: l) := by
    refine S8.to ?_
    iterate 3 (apply Ent.pick; (focus (repeat (first | exact Sel.here | apply Sel.there))))
    exact Ent.drop Ent.refl
  refine rangeNext F S9 (fun _ => ?_) (fun a x b h1 => by rw [h2] at h1; cases a <;> simp at h1)
  refine ⟨_, rfl, _, _, rfl, _, rfl, ?_⟩
  refine iteB_f rfl ?_
  refine ⟨rfl, q, c, rfl, S9.to ?_⟩
  exact Ent.drop (Ent.drop Ent.refl)
end
end Go.Proofs.YtobolifgehagfaaGreat

set_option linter.unusedVariables false
set_option linter.unusedSimpArgs false
set_option linter.unnecessarySimpa false
namespace Go.Proofs.YtobolifgehagfaaGreat
open Go Go.Den Go.Proofs
section
variable {H H0 : Heap} {l : List HP}
theorem len64_one : CallsH Tryz.prog 79 ⟨[.int .u64 1]⟩ H (Gives (.int .i64 1) H) := by
  refine F79.calls ?_
  unfold F79.go
  refine iteB_f rfl ?_
  refine F79.L0_step ?_
  unfold F79.L0n
  refine iteB_f rfl ?_
  refine F79.L1_step ?_
  unfold F79.L1n
  refine iteB_f rfl ?_
  refine F79.L2_step ?_
  unfold F79.L2n
  refine ⟨by decide, (1 : UInt8), by kernel_rfl, ?_⟩
  exact ⟨rfl, ExtH.refl _⟩
theorem sort_one {q : Option Addr} {c : Nat} : CallsH Tryz.prog 43 ⟨[.slice q 1 c]⟩ H (Gives (.tuple ⟨[]⟩) H) := by
  have S := Sat.start H
  refine F43.calls ?_
  unfold F43.go
  have h1 : CallsH Tryz.prog 58 ⟨[.int .u64 (IntKind.wrap .u64 ((1 : Nat) : Int))]⟩ H (Gives (.int .i64 1) H) := by
    refine F58.calls ?_
    unfold F58.go
    refine gives_i S len64_one fun H1 E1 S1 => ?_
    refine tInt_i ?_
    exact ⟨rfl, E1⟩
  refine gives_i S h1 fun H1 E1 S1 => ?_
  refine tInt_i ?_
  have h2 : CallsH Tryz.prog 57 ⟨[.slice q 1 c, .int .i64 0, .int .i64 ((1 : Nat) : Int), .int .i64 1]⟩ H1 (Gives (.tuple ⟨[]⟩) H1) := by
    refine F57.calls ?_
    unfold F57.go
    refine F57.L0_step ?_
    unfold F57.L0n
    refine iteB_t rfl ?_
    have h3 : CallsH Tryz.prog 69 ⟨[.slice q 1 c, .int .i64 0, .int .i64 ((1 : Nat) : Int)]⟩ H1 (Gives (.tuple ⟨[]⟩) H1) := by
      refine F69.calls ?_
      unfold F69.go
      refine F69.L0_step ?_
      unfold F69.L0n
      refine iteB_f rfl ?_
      exact ⟨rfl, ExtH.refl _⟩
    refine gives_i S1 h3 fun H2 E2 S2 => ?_
    refine tTup_i ?_
    refine tNil_i ?_
    exact ⟨rfl, E2⟩
  refine gives_i S1 h2 fun H2 E2 S2 => ?_
  refine tTup_i ?_
  refine tNil_i ?_
  exact ⟨rfl, E1.trans E2⟩
abbrev opC (k id : Int) (key e : ByteArray) (he : Bool) (m : Int) (qk : ByteArray) : List Value := [.int .i64 k, .int .i64 id, .string key, .string e, .bool he, .int .i64 m, .string qk, .int .i64 0, .int .i64 0, .slice none 0 0]
abbrev ansV (ok : Bool) (n : Int) (q : Option Addr) (qn qc : Nat) : Value := .agg ⟨[.bool ok, .int .i64 n, .slice q qn qc, .slice none 0 0]⟩
theorem end_ok : CallsH Tryz.prog 39 ⟨[.string (ByteArray.mk #[]), .bool false]⟩ H (Gives (.slice none 0 0) H) := by
  refine F39.calls ?_
  unfold F39.go
  exact ⟨rfl, ExtH.refl _⟩
theorem has_ok {z km tp wm im sr : Nat} (S : Sat H (grp0 z km tp wm im sr l)) : CallsH Tryz.prog 36 ⟨[pA z, .int .i64 3]⟩ H (fun e H1 => e = .returned (.bool false) ∧ H1 = H) := by
  refine F36.calls ?_
  unfold F36.go
  (iterate 2 (refine Step.go ?_; intros))
  refine Step.go ?_
  refine Duo.mk (fun v hv => by cases hv) (fun _ => ?_)
  (repeat (first | (refine Step.go ?_; intros) | refine iteB_t (by decide) ?_ | refine iteB_f (by decide) ?_ | (refine Duo.mk (by first | omega | exact rfl | decide) ?_; intros)))
  exact ⟨rfl, rfl⟩
theorem size_ok {z km tp wm im sr : Nat} (S : Sat H (grp0 z km tp wm im sr l)) : CallsH Tryz.prog 37 ⟨[pA z]⟩ H (fun e H1 => e = .returned (.int .i64 0) ∧ H1 = H) := by
  refine F37.calls ?_
  unfold F37.go
  (repeat (first | (refine Step.go ?_; intros) | refine iteB_t (by decide) ?_ | refine iteB_f (by decide) ?_ | (refine Duo.mk (by first | omega | exact rfl | decide) ?_; intros)))
  have h : CallsH Tryz.prog 52 ⟨[pA z]⟩ H (fun e H1 => e = .returned (.int .i64 0) ∧ H1 = H) := by
    refine F52.calls ?_
    unfold F52.go
    (repeat (first | (refine Step.go ?_; intros) | refine iteB_t (by decide) ?_ | refine iteB_f (by decide) ?_ | (refine Duo.mk (by first | omega | exact rfl | decide) ?_; intros)))
    obtain ⟨h, ⟨es, clk, hb, he, _, _⟩, hs⟩ := S.mem (c := mp ptrK unitF wm []) (List.mem_cons_of_mem _ (List.mem_cons_of_mem _ (List.mem_cons_self ..)))
    refine mapLen (t := 94) rfl um (hs _ _ hb) ?_
    have he0 : es.size = 0 := by
      have := congrArg List.length he
      simpa using this
    rw [he0]
    (repeat (first | (refine Step.go ?_; intros) | refine iteB_t (by decide) ?_ | refine iteB_f (by decide) ?_ | (refine Duo.mk (by first | omega | exact rfl | decide) ?_; intros)))
    exact ⟨rfl, rfl⟩
  refine callD_i h ?_
  rintro _ H1 ⟨rfl, rfl⟩
  (repeat (first | (refine Step.go ?_; intros) | refine iteB_t (by decide) ?_ | refine iteB_f (by decide) ?_ | (refine Duo.mk (by first | omega | exact rfl | decide) ?_; intros)))
  exact ⟨rfl, rfl⟩
theorem opAdd_ok {z km tp wm im sr : Nat} (S : Sat H (grp0 z km tp wm im sr l)) : CallsH Tryz.prog 24 ⟨[pA z, .agg ⟨opC 1 3 (ByteArray.mk #[107]) (ByteArray.mk #[]) false 0 (ByteArray.mk #[])⟩]⟩ H (fun e H1 => e = .returned (ansV true 0 none 0 0) ∧ ∃ w r g kb kc ch, g r = some (watO kb kc 0 3 ch) ∧ Sat H1 (grp1 z km tp wm im sr w r g l)) := by
  refine F24.calls ?_
  unfold F24.go
  (repeat (first | (refine Step.go ?_; intros) | refine iteB_t (by decide) ?_ | refine iteB_f (by decide) ?_ | (refine Duo.mk (by first | omega | exact rfl | decide) ?_; intros)))
  have S1 := ‹Sat _ _›
  refine callD_i (has_ok (z := z) (km := km) (tp := tp) (wm := wm) (im := im) (sr := sr) (S1.to (by
    iterate 5 (apply Ent.pick; (focus (repeat (first | exact Sel.here | apply Sel.there))))
    exact Ent.refl))) ?_
  rintro _ H2 ⟨rfl, rfl⟩
  (repeat (first | (refine Step.go ?_; intros) | refine iteB_t (by decide) ?_ | refine iteB_f (by decide) ?_ | (refine Duo.mk (by first | omega | exact rfl | decide) ?_; intros)))
  refine callD_i (size_ok (z := z) (km := km) (tp := tp) (wm := wm) (im := im) (sr := sr) (S1.to (by
    iterate 5 (apply Ent.pick; (focus (repeat (first | exact Sel.here | apply Sel.there))))
    exact Ent.refl))) ?_
  rintro _ H2 ⟨rfl, rfl⟩
  (repeat (first | (refine Step.go ?_; intros) | refine iteB_t (by decide) ?_ | refine iteB_f (by decide) ?_ | (refine Duo.mk (by first | omega | exact rfl | decide) ?_; intros)))
  refine F24.L1_step ?_
  unfold F24.L1n
  refine ⟨?_, ?_⟩
  · (repeat (first | (refine Step.go ?_; intros) | refine iteB_t (by decide) ?_ | refine iteB_f (by decide) ?_ | (refine Duo.mk (by first | omega | exact rfl | decide) ?_; intros)))
    have S2 := ‹Sat _ (pt _ (.cells ⟨bytesOf _ ++ _⟩ _ _) :: _)›
    refine gives_i S2 end_ok fun H3 E3 S3 => ?_
    clear S2
    (repeat (first | (refine Step.go ?_; intros) | refine iteB_t (by decide) ?_ | refine iteB_f (by decide) ?_ | (refine Duo.mk (by first | omega | exact rfl | decide) ?_; intros)))
    refine callD_i (zzAdd_ok (z := z) (km := km) (tp := tp) (wm := wm) (im := im) (sr := sr) (S3.to (by
      iterate 6 (apply Ent.pick; (focus (repeat (first | exact Sel.here | apply Sel.there))))
      exact Ent.refl))) ?_
    rintro _ H4 ⟨rfl, w, r, g, ch, hr, hk, S4⟩
    clear S3
    (repeat (first | (refine Step.go ?_; intros) | refine iteB_t (by decide) ?_ | refine iteB_f (by decide) ?_ | (refine Duo.mk (by first | omega | exact rfl | decide) ?_; intros)))
    have S9 := ‹Sat _ _›
    refine ⟨rfl, w, r, g, _, _, ch, hr, S9.to ?_⟩
    iterate 7 (apply Ent.pick; (focus (repeat (first | exact Sel.here | apply Sel.there))))
    exact Ent.drop (Ent.drop (Ent.drop Ent.refl))
  · (repeat (first | (refine Step.go ?_; intros) | refine iteB_t (by decide) ?_ | refine iteB_f (by decide) ?_ | (refine Duo.mk (by first | omega | exact rfl | decide) ?_; intros)))
    refine gives_i S1 end_ok fun H3 E3 S3 => ?_
    clear S1
    (repeat (first | (refine Step.go ?_; intros) | refine iteB_t (by decide) ?_ | refine iteB_f (by decide) ?_ | (refine Duo.mk (by first | omega | exact rfl | decide) ?_; intros)))
    have S5 := ‹Sat _ (pt _ (.cells ⟨bytesOf _ ++ _⟩ _ _) :: _)›
    refine callD_i (zzAdd_ok (z := z) (km := km) (tp := tp) (wm := wm) (im := im) (sr := sr) (S5.to (by
      iterate 6 (apply Ent.pick; (focus (repeat (first | exact Sel.here | apply Sel.there))))
      exact Ent.refl))) ?_
    rintro _ H4 ⟨rfl, w, r, g, ch, hr, hk, S4⟩
    clear S5
    (repeat (first | (refine Step.go ?_; intros) | refine iteB_t (by decide) ?_ | refine iteB_f (by decide) ?_ | (refine Duo.mk (by first | omega | exact rfl | decide) ?_; intros)))
    have S9 := ‹Sat _ _›
    refine ⟨rfl, w, r, g, _, _, ch, hr, S9.to ?_⟩
    iterate 7 (apply Ent.pick; (focus (repeat (first | exact Sel.here | apply Sel.there))))
    exact Ent.drop (Ent.drop (Ent.drop Ent.refl))
end
end Go.Proofs.YtobolifgehagfaaGreat

set_option linter.unusedVariables false
set_option linter.unusedSimpArgs false
set_option linter.unnecessarySimpa false
namespace Go.Proofs.YtobolifgehagfaaGreat
open Go Go.Den Go.Proofs
abbrev intC (n : Int) : List Value := [.int .i64 n]
abbrev idC (x : List Value) : List Value := x
abbrev op0 : List Value := opC 1 3 (ByteArray.mk #[107]) (ByteArray.mk #[]) false 0 (ByteArray.mk #[])
abbrev op1 : List Value := opC 4 0 (ByteArray.mk #[]) (ByteArray.mk #[]) false 0 (ByteArray.mk #[107])
abbrev an0 : List Value := [.bool true, .int .i64 0, .slice none 0 0, .slice none 0 0]
abbrev an1 (q : Option Addr) (c : Nat) : List Value := [.bool false, .int .i64 0, .slice q 1 c, .slice none 0 0]
section
variable {H H0 : Heap} {l : List HP}
theorem opKey_ok {z km tp wm im sr w r kb kc ch : Nat} {g : PH} (hr : g r = some (watO kb kc 0 3 ch)) (S : Sat H (grp1 z km tp wm im sr w r g l)) : CallsH Tryz.prog 24 ⟨[pA z, .agg ⟨op1⟩]⟩ H (fun e H1 => ∃ q c, e = .returned (ansV false 0 q 1 c) ∧ Sat H1 (sl intC 2 1 q 1 c [3] :: l)) := by
  refine F24.calls ?_
  unfold F24.go
  (repeat (first | (refine Step.go ?_; intros) | refine iteB_t (by decide) ?_ | refine iteB_f (by decide) ?_ | (refine Duo.mk (by first | omega | exact rfl | decide) ?_; intros)))
  have S1 := ‹Sat _ _›
  refine callD_i (byKey_ok (z := z) (km := km) (tp := tp) (wm := wm) (im := im) (sr := sr) (w := w) (g := g) hr (S1.to (by
    iterate 7 (apply Ent.pick; (focus (repeat (first | exact Sel.here | apply Sel.there))))
    exact Ent.refl))) ?_
  rintro _ H2 ⟨q, c, rfl, S2⟩
  clear S1 S
  (repeat (first | (refine Step.go ?_; intros) | refine iteB_t (by decide) ?_ | refine iteB_f (by decide) ?_ | (refine Duo.mk (by first | omega | exact rfl | decide) ?_; intros)))
  have S3 := ‹Sat _ (_ :: _)›
  refine gives_i S3 sort_one fun H4 E4 S4 => ?_
  clear S2 S3
  (repeat (first | (refine Step.go ?_; intros) | refine iteB_t (by decide) ?_ | refine iteB_f (by decide) ?_ | (refine Duo.mk (by first | omega | exact rfl | decide) ?_; intros)))
  have S9 := ‹Sat _ _›
  refine ⟨q, c, rfl, S9.to ?_⟩
  iterate 1 (apply Ent.pick; (focus (repeat (first | exact Sel.here | apply Sel.there))))
  exact Ent.drop (Ent.drop (Ent.drop Ent.refl))
theorem group_ok {p : Option Addr} (S : Sat H (sl idC 30 10 p 2 2 [op0, op1] :: l)) : CallsH Tryz.prog 15 ⟨[.slice p 2 2]⟩ H (fun e H1 => ∃ q c q' c', e = .returned (.slice q 2 c) ∧ Sat H1 (sl idC 55 4 q 2 c [an0, an1 q' c'] :: sl intC 2 1 q' 1 c' [3] :: l)) := by
  refine F15.calls ?_
  unfold F15.go
  refine callD_i (newGroup_ok S) ?_
  rintro _ H1 ⟨z, km, tp, wm, im, sr, rfl, S1⟩
  clear S
  (repeat (first | (refine Step.go ?_; intros) | refine iteB_t (by decide) ?_ | refine iteB_f (by decide) ?_ | (refine Duo.mk (by first | omega | exact rfl | decide) ?_; intros)))
  have h0 : HasI [op0, op1] (0 : Int) op0 := HasI.nat (i := 0) rfl
  have h1 : HasI [op0, op1] (1 : Int) op1 := HasI.nat (i := 1) rfl
  obtain ⟨ra, oa, rfl⟩ := S1.slSome (f := idC) (E := 30) (z := 10) (p := p) (n := 2) (c := 2) (xs := [op0, op1]) (List.mem_cons_of_mem _ (List.mem_cons_of_mem _ (List.mem_cons_of_mem _ (List.mem_cons_of_mem _ (List.mem_cons_of_mem _ (List.mem_cons_self ..)))))) (by omega)
  refine F15.L0_step ?_
  unfold F15.L0n
  refine iteB_t (by decide) ?_
  (repeat (first | (refine Step.go ?_; intros) | refine iteB_t (by decide) ?_ | refine iteB_f (by decide) ?_ | (refine Duo.mk (by first | omega | exact rfl | decide) ?_; intros)))
  refine callD_i (opAdd_ok (S1.to (by
    iterate 5 (apply Ent.pick; (focus (repeat (first | exact Sel.here | apply Sel.there))))
    exact Ent.refl))) ?_
  rintro _ H2 ⟨rfl, w, r, g, kb, kc, ch, hr, S2⟩
  clear S1
  (repeat (first | (refine Step.go ?_; intros) | refine iteB_t (by decide) ?_ | refine iteB_f (by decide) ?_ | (refine Duo.mk (by first | omega | exact rfl | decide) ?_; intros)))
  rename_i r2 H3 S3
  have S4 : Sat H3 (sl idC 55 4 none 0 0 [] :: pt r2 (.cells ⟨an0⟩ 55) :: grp1 z km tp wm im sr w r g (sl idC 30 10 (some ⟨ra, oa, none⟩) 2 2 [op0, op1] :: l)) := by
    refine S3.to (Ent.slNil ?_)
    exact Ent.refl
  refine S4.slApp (ys := [an0]) (q := some ⟨r2, 0, none⟩) (d := 1) ?_ rfl (by simp) (by simp [isCell]) rfl (by decide) (by omega) fun q c H5 S5 => ?_
  · simp only [List.flatMap_cons, List.flatMap_nil, List.append_nil]
    exact cellsAt_one (S4.at_ (List.mem_cons_of_mem _ (List.mem_cons_self ..)))
  clear S2 S3 S4
  rw [show IntKind.wrap .i64 ((0 : Int) + 1) = 1 from rfl]
  refine F15.L0_step ?_
  unfold F15.L0n
  refine iteB_t (by decide) ?_
  (repeat (first | (refine Step.go ?_; intros) | refine iteB_t (by decide) ?_ | refine iteB_f (by decide) ?_ | (refine Duo.mk (by first | omega | exact rfl | decide) ?_; intros)))
  refine callD_i (opKey_ok (z := z) (km := km) (tp := tp) (wm := wm) (im := im) (sr := sr) (w := w) (g := g) hr (S5.to (by
    iterate 7 (apply Ent.pick; (focus (repeat (first | exact Sel.here | apply Sel.there))))
    exact Ent.refl))) ?_
  rintro _ H6 ⟨q', c', rfl, S6⟩
  clear S5
  (repeat (first | (refine Step.go ?_; intros) | refine iteB_t (by decide) ?_ | refine iteB_f (by decide) ?_ | (refine Duo.mk (by first | omega | exact rfl | decide) ?_; intros)))
  rename_i r3 H7 S7
  have S8 : Sat H7 (sl idC 55 4 q 1 c [an0] :: pt r3 (.cells ⟨an1 q' c'⟩ 55) :: sl intC 2 1 q' 1 c' [3] :: l) := by
    refine S7.to ?_
    iterate 3 (apply Ent.pick; (focus (repeat (first | exact Sel.here | apply Sel.there))))
    exact Ent.drop (Ent.drop Ent.refl)
  refine S8.slApp (ys := [an1 q' c']) (q := some ⟨r3, 0, none⟩) (d := 1) ?_ rfl (by simp) (by simp [isCell]) rfl (by decide) (by omega) fun q2 c2 H8 S9 => ?_
  · simp only [List.flatMap_cons, List.flatMap_nil, List.append_nil]
    exact cellsAt_one (S8.at_ (List.mem_cons_of_mem _ (List.mem_cons_self ..)))
  rw [show IntKind.wrap .i64 ((1 : Int) + 1) = 2 from rfl]
  refine F15.L0_step ?_
  unfold F15.L0n
  refine iteB_f (by decide) ?_
  refine ⟨q2, c2, q', c', rfl, S9.to (Ent.cons (Ent.drop Ent.refl))⟩
theorem live_ok : CallsH Tryz.prog 9 ⟨[]⟩ H (Gives (.bool true) H) := by
  have S := Sat.start H
  refine F9.calls ?_
  unfold F9.go
  refine Step.go ?_
  intro r H1 S1
  clear S
  have S2 : Sat H1 (sl idC 30 10 (some ⟨r, 0, none⟩) 2 2 [op0, op1] :: old H :: []) := S1.to (Ent.slClose (f := idC) (pre := []) (sp := []) (xs := [op0, op1]) rfl (by simp) (Nat.le_refl 2) rfl (by simp))
  refine callD_i (group_ok S2) ?_
  rintro _ H2 ⟨q, c, q', c', rfl, S3⟩
  clear S1 S2
  have E : ExtH H H2 := S3.old (by simp)
  (repeat (first | (refine Step.go ?_; intros) | refine iteB_t (by decide) ?_ | refine iteB_f (by decide) ?_ | (refine Duo.mk (by first | omega | exact rfl | decide) ?_; intros)))
  have h1 : HasI [an0, an1 q' c'] (1 : Int) (an1 q' c') := HasI.nat (i := 1) rfl
  have h2 : HasI [(3 : Int)] (0 : Int) (3 : Int) := HasI.nat (i := 0) rfl
  obtain ⟨ra, oa, rfl⟩ := S3.slSome (List.mem_cons_self ..) (by omega)
  obtain ⟨rb, ob, rfl⟩ := S3.slSome (f := intC) (E := 2) (z := 1) (p := q') (n := 1) (c := c') (xs := [3]) (List.mem_cons_of_mem _ (List.mem_cons_self ..)) (by omega)
  (repeat (first | (refine Step.go ?_; intros) | refine iteB_t (by decide) ?_ | refine iteB_f (by decide) ?_ | (refine Duo.mk (by first | omega | exact rfl | decide) ?_; intros)))
  exact ⟨rfl, E⟩
end
end Go.Proofs.YtobolifgehagfaaGreat
