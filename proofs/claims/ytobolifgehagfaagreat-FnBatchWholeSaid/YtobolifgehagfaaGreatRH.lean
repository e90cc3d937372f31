/- What functions of this seat do, each proved by a walk; no condition. -/
import Derived.Test.YtobolifgehagfaaGreatRB
import Derived.Test.YtobolifgehagfaaGreatRC
set_option linter.unusedVariables false
set_option linter.unusedSimpArgs false
set_option linter.unnecessarySimpa false
namespace Go.Proofs.YtobolifgehagfaaGreat
open Go Go.Den Go.Proofs
/-! A group of one watcher. -/
abbrev wA (o : Option Nat) : Value := .pointer (o.map aA)
abbrev unitF (_ : Unit) : Value := .agg ⟨[]⟩
abbrev mpI (o : Nat) : Value := .map (some o)
theorem um : Tryz.prog.underlying 94 = some (.map 117 154) := by kernel_rfl
theorem uw : Tryz.prog.underlying 117 = some (.pointer 123) := by kernel_rfl
theorem iw : Tryz.prog.info? 123 = some Tryz.t123 := by kernel_rfl
theorem PM1 : PtrMap Tryz.prog 94 117 154 123 Tryz.t123 (.agg ⟨[]⟩) := ⟨um, uw, iw, by decide, by kernel_rfl⟩
instance MT1 : MapT Tryz.prog 90 Value.string mpI (.map none) := ⟨⟨9, 94, by kernel_rfl, KeyT.string (by kernel_rfl), by kernel_rfl⟩⟩
instance MT2 : MapT Tryz.prog 98 (Value.int .i64) ptrK (.pointer none) := ⟨⟨2, 117, by kernel_rfl, KeyT.int (by kernel_rfl), by kernel_rfl⟩⟩
instance EncM {o : Nat} : EncV mpI (.map (some o)) o := ⟨rfl⟩
instance EncP {o : Nat} : EncV ptrK (.pointer (some ⟨o, 0, none⟩)) o := ⟨rfl⟩
abbrev watO (kb kc : Nat) (m id : Int) (ch : Nat) : Obj := .cells ⟨[.slice (some (aA kb)) 1 kc, .slice none 0 0, .bool false, .bool false, .bool false, .int .i64 0, .int .i64 m, .int .i64 id, .slice none 0 0, .chan (some ch)]⟩ 123
abbrev treO0 (sr : Nat) : Obj := .cells ⟨[pA sr, .int .i64 0, pA sr]⟩ 149
abbrev grO (km tp wm im : Nat) : Obj := .cells ⟨[.map (some km), .iface 147 (pA tp), .map (some wm), .map (some im)]⟩ 100
section
variable {H H0 : Heap} {l : List HP}
theorem newGroup_ok (S : Sat H l) : CallsH Tryz.prog 23 ⟨[]⟩ H (fun e H1 => ∃ z km tp wm im sr, e = .returned (pA z) ∧ Sat H1 (pt z (grO km tp wm im) :: mp Value.string mpI km [] :: mp ptrK unitF wm [] :: mp (Value.int .i64) ptrK im [] :: pt tp (treO0 sr) :: l)) := by
  refine F23.calls ?_
  unfold F23.go
  have inner : CallsH Tryz.prog 35 ⟨[]⟩ H (fun e H1 => ∃ km tp wm sr, e = .returned (.agg ⟨[.map (some km), .iface 147 (pA tp), .map (some wm)]⟩) ∧ Sat H1 (pt km (.map #[] 0) :: pt wm (.map #[] 0) :: pt tp (treO0 sr) :: l)) := by
    refine F35.calls ?_
    unfold F35.go
    refine Step.go ?_
    intro r H1 S1
    refine Step.go ?_
    intro km H2 S2
    clear S S1
    have tree : CallsH Tryz.prog 51 ⟨[]⟩ H2 (fun e H1 => ∃ x : Nat × Nat, e = .returned (.iface 147 (pA x.1)) ∧ Sat H1 ([pt x.1 (treO0 x.2)] ++ [old H2])) := by
      have S := Sat.start H2
      clear S2
      refine F51.calls ?_
      unfold F51.go
      (repeat (first | (refine Step.go ?_; intros) | refine iteB_t (by decide) ?_ | refine iteB_f (by decide) ?_ | (refine Duo.mk (by first | omega | exact rfl | decide) ?_; intros) | (refine Duo.mk (Clo.mk (by kernel_rfl)) ?_; intros)))
      rename_i sr H3 S3 tp H4 S4
      refine ⟨(tp, sr), rfl, S4.to ?_⟩
      iterate 2 (apply Ent.pick; (focus (repeat (first | exact Sel.here | apply Sel.there))))
      exact Ent.nil
    refine grow_i S2 tree ?_
    rintro ⟨tp, sr⟩ H3 E3 S3
    dsimp only [List.cons_append, List.nil_append] at S3 ⊢
    clear S2
    (repeat (first | (refine Step.go ?_; intros) | refine iteB_t (by decide) ?_ | refine iteB_f (by decide) ?_ | (refine Duo.mk (by first | omega | exact rfl | decide) ?_; intros) | (refine Duo.mk (Clo.mk (by kernel_rfl)) ?_; intros)))
    show guardB true _
    (repeat (first | (refine Step.go ?_; intros) | refine iteB_t (by decide) ?_ | refine iteB_f (by decide) ?_ | (refine Duo.mk (by first | omega | exact rfl | decide) ?_; intros) | (refine Duo.mk (Clo.mk (by kernel_rfl)) ?_; intros)))
    have S9 := ‹Sat _ _›
    refine ⟨km, tp, _, sr, rfl, S9.to ?_⟩
    iterate 3 (apply Ent.pick; (focus (repeat (first | exact Sel.here | apply Sel.there))))
    exact Ent.drop Ent.refl
  refine callD_i inner ?_
  rintro _ H1 ⟨km, tp, wm, sr, rfl, S1⟩
  clear S
  (repeat (first | (refine Step.go ?_; intros) | refine iteB_t (by decide) ?_ | refine iteB_f (by decide) ?_ | (refine Duo.mk (by first | omega | exact rfl | decide) ?_; intros) | (refine Duo.mk (Clo.mk (by kernel_rfl)) ?_; intros)))
  rename_i im H2 S2 z H3 S3
  have S4 : Sat H3 (pt km (.map #[] 0) :: pt z (grO km tp wm im) :: pt wm (.map #[] 0) :: pt im (.map #[] 0) :: pt tp (treO0 sr) :: l) := by
    refine S3.to ?_
    iterate 5 (apply Ent.pick; (focus (repeat (first | exact Sel.here | apply Sel.there))))
    exact Ent.refl
  have S5 := S4.mpNew Value.string mpI
  have S6 : Sat H3 (pt wm (.map #[] 0) :: mp Value.string mpI km [] :: pt z (grO km tp wm im) :: pt im (.map #[] 0) :: pt tp (treO0 sr) :: l) := by
    refine S5.to ?_
    iterate 5 (apply Ent.pick; (focus (repeat (first | exact Sel.here | apply Sel.there))))
    exact Ent.refl
  have S7 := S6.mpNew ptrK unitF
  have S8 : Sat H3 (pt im (.map #[] 0) :: mp ptrK unitF wm [] :: mp Value.string mpI km [] :: pt z (grO km tp wm im) :: pt tp (treO0 sr) :: l) := by
    refine S7.to ?_
    iterate 5 (apply Ent.pick; (focus (repeat (first | exact Sel.here | apply Sel.there))))
    exact Ent.refl
  have S9 := S8.mpNew (Value.int .i64) ptrK
  refine ⟨z, km, tp, wm, im, sr, rfl, S9.to ?_⟩
  iterate 5 (apply Ent.pick; (focus (repeat (first | exact Sel.here | apply Sel.there))))
  exact Ent.refl
/-- A block of cells in a part of memory. -/
def plainG (g : PH) (r : Nat) : Prop := ∃ c T z, g r = some (.cells c T (z, z))
theorem plainG.at_ {g : PH} {r : Nat} (h : plainG g r) (hs : PH.sub g (PH.of H)) : plainB H r := by
  obtain ⟨c, T, z, e⟩ := h
  exact ⟨c, T, z, hs _ _ e⟩
/-- A watcher is put into an empty set. -/
theorem setAdd_ok {g : PH} {w r : Nat} (hr : plainG g r) (S : Sat H (mp ptrK unitF w [] :: has g :: l)) : CallsH Tryz.prog 62 ⟨[.map (some w), pA r]⟩ H (fun e H1 => e = .returned (.tuple ⟨[]⟩) ∧ Sat H1 (mp ptrK unitF w [(r, ())] :: has g :: l)) := by
  have hs : PH.sub g (PH.of H) := HasG.sub (l := mp ptrK unitF w [] :: has g :: l) inferInstance S
  refine F62.calls ?_
  unfold F62.go
  refine Sat.lookupK (r := r) PM1 S (List.mem_cons_self ..) (hr.at_ hs) (fun x hx => by cases hx) (fun v hv => by cases hv) (fun _ => ?_)
  show tTup (.tuple ⟨[.agg ⟨[]⟩, .bool false]⟩) _
  (repeat (first | (refine Step.go ?_; intros) | refine iteB_t (by decide) ?_ | refine iteB_f (by decide) ?_ | (refine Duo.mk (by first | omega | exact rfl | decide) ?_; intros) | (refine Duo.mk (Clo.mk (by kernel_rfl)) ?_; intros)))
  rename_i r2 H2 S2
  have S3 : Sat H2 (mp ptrK unitF w [] :: has g :: l) := by
    refine S2.to ?_
    iterate 2 (apply Ent.pick; (focus (repeat (first | exact Sel.here | apply Sel.there))))
    exact Ent.drop Ent.refl
  have hs2 : PH.sub g (PH.of H2) := HasG.sub (l := mp ptrK unitF w [] :: has g :: l) inferInstance S3
  refine S3.mpSetK PM1 (hr.at_ hs2) (fun x hx => by cases hx) rfl () fun H3 S4 => ?_
  exact ⟨rfl, S4⟩
/-- The first watcher of a key. -/
theorem keyAdd_ok {g : PH} {km r kb kc ch : Nat} {m id : Int} {kr : List Value} {kf : Nat × Nat} (hr : g r = some (watO kb kc m id ch)) (hk : g kb = some (.cells ⟨bytesOf [107] ++ kr⟩ 5 kf)) (S : Sat H (mp Value.string mpI km [] :: has g :: l)) : CallsH Tryz.prog 63 ⟨[.map (some km), pA r]⟩ H (fun e H1 => e = .returned (.tuple ⟨[]⟩) ∧ ∃ w, Sat H1 (mp ptrK unitF w [(r, ())] :: mp Value.string mpI km [(ByteArray.mk #[107], w)] :: has g :: l)) := by
  have hs : PH.sub g (PH.of H) := HasG.sub (l := mp Value.string mpI km [] :: has g :: l) inferInstance S
  refine F63.calls ?_
  unfold F63.go
  have B1 : Blc H r _ := ⟨hs _ _ hr⟩
  (repeat (first | (refine Step.go ?_; intros) | refine iteB_t (by decide) ?_ | refine iteB_f (by decide) ?_ | (refine Duo.mk (by first | omega | exact rfl | decide) ?_; intros) | (refine Duo.mk (Clo.mk (by kernel_rfl)) ?_; intros)))
  refine ⟨[107], rfl, cellsAt_block (s := ByteArray.mk #[107]) (hs _ _ hk), ?_⟩
  refine Step.go ?_
  refine Duo.mk (fun v hv => by cases hv) (fun _ => ?_)
  (repeat (first | (refine Step.go ?_; intros) | refine iteB_t (by decide) ?_ | refine iteB_f (by decide) ?_ | (refine Duo.mk (by first | omega | exact rfl | decide) ?_; intros) | (refine Duo.mk (Clo.mk (by kernel_rfl)) ?_; intros)))
  rename_i w H2 S2
  have hs2 : PH.sub g (PH.of H2) := HasG.sub (l := pt w (.map #[] 0) :: mp Value.string mpI km [] :: has g :: l) inferInstance S2
  have B2 : Blc H2 r _ := ⟨hs2 _ _ hr⟩
  (repeat (first | (refine Step.go ?_; intros) | refine iteB_t (by decide) ?_ | refine iteB_f (by decide) ?_ | (refine Duo.mk (by first | omega | exact rfl | decide) ?_; intros) | (refine Duo.mk (Clo.mk (by kernel_rfl)) ?_; intros)))
  refine ⟨[107], rfl, cellsAt_block (s := ByteArray.mk #[107]) (hs2 _ _ hk), ?_⟩
  refine Step.go ?_
  intro H3 S3
  have S4 := S3.mpNew ptrK unitF
  have S5 : Sat H3 (mp ptrK unitF w [] :: has g :: mp Value.string mpI km [(ByteArray.mk #[107], w)] :: l) := by
    refine S4.to ?_
    iterate 3 (apply Ent.pick; (focus (repeat (first | exact Sel.here | apply Sel.there))))
    exact Ent.refl
  clear S S2 S3 S4
  refine callD_i (setAdd_ok (r := r) ⟨_, _, 0, hr⟩ S5) ?_
  rintro _ H4 ⟨rfl, S6⟩
  (repeat (first | (refine Step.go ?_; intros) | refine iteB_t (by decide) ?_ | refine iteB_f (by decide) ?_ | (refine Duo.mk (by first | omega | exact rfl | decide) ?_; intros) | (refine Duo.mk (Clo.mk (by kernel_rfl)) ?_; intros)))
  refine ⟨rfl, w, S6.to ?_⟩
  iterate 3 (apply Ent.pick; (focus (repeat (first | exact Sel.here | apply Sel.there))))
  exact Ent.refl
end
end Go.Proofs.YtobolifgehagfaaGreat
