/- What functions of this seat do, each proved by a walk; no condition. -/
import Derived.Test.YtobolifgehagfaaGreatRH
set_option linter.unusedVariables false
set_option linter.unusedSimpArgs false
set_option linter.unnecessarySimpa false
namespace Go.Proofs.YtobolifgehagfaaGreat
open Go Go.Den Go.Proofs
/-! The first watcher of a group, of one key. -/
section
variable {H H0 : Heap} {l : List HP}
/-- A group without watchers, and one with a watcher of the key 107. -/
abbrev grp0 (z km tp wm im sr : Nat) (l : List HP) : List HP := pt z (grO km tp wm im) :: mp Value.string mpI km [] :: mp ptrK unitF wm [] :: mp (Value.int .i64) ptrK im [] :: pt tp (treO0 sr) :: l
abbrev grp1 (z km tp wm im sr w r : Nat) (g : PH) (l : List HP) : List HP := pt z (grO km tp wm im) :: mp Value.string mpI km [(ByteArray.mk #[107], w)] :: mp ptrK unitF w [(r, ())] :: mp ptrK unitF wm [(r, ())] :: mp (Value.int .i64) ptrK im [(3, r)] :: pt tp (treO0 sr) :: has g :: l
theorem grpAdd_ok {g : PH} {z km tp wm im sr r kb kc ch : Nat} {m id : Int} {kr : List Value} {kf : Nat × Nat} {M : List (Int × Nat)} (hr : g r = some (watO kb kc m id ch)) (hk : g kb = some (.cells ⟨bytesOf [107] ++ kr⟩ 5 kf))
    (S : Sat H (pt z (grO km tp wm im) :: mp Value.string mpI km [] :: mp ptrK unitF wm [] :: mp (Value.int .i64) ptrK im M :: pt tp (treO0 sr) :: has g :: l)) :
    CallsH Tryz.prog 53 ⟨[pA z, pA r]⟩ H (fun e H1 => e = .returned (.tuple ⟨[]⟩) ∧ ∃ w, Sat H1 (pt z (grO km tp wm im) :: mp Value.string mpI km [(ByteArray.mk #[107], w)] :: mp ptrK unitF w [(r, ())] :: mp ptrK unitF wm [(r, ())] :: mp (Value.int .i64) ptrK im M :: pt tp (treO0 sr) :: has g :: l)) := by
  refine F53.calls ?_
  unfold F53.go
  (repeat (first | (refine Step.go ?_; intros) | refine iteB_t (by decide) ?_ | refine iteB_f (by decide) ?_ | (refine Duo.mk (by first | omega | exact rfl | decide) ?_; intros) | (refine Duo.mk (Clo.mk (by kernel_rfl)) ?_; intros)))
  have S1 : Sat H (mp ptrK unitF wm [] :: has g :: pt z (grO km tp wm im) :: mp Value.string mpI km [] :: mp (Value.int .i64) ptrK im M :: pt tp (treO0 sr) :: l) := by
    refine S.to ?_
    iterate 6 (apply Ent.pick; (focus (repeat (first | exact Sel.here | apply Sel.there))))
    exact Ent.refl
  clear S
  refine callD_i (setAdd_ok (r := r) ⟨_, _, 0, hr⟩ S1) ?_
  rintro _ H2 ⟨rfl, S2⟩
  clear S1
  have hs : PH.sub g (PH.of H2) := HasG.sub (l := mp ptrK unitF wm [(r, ())] :: has g :: pt z (grO km tp wm im) :: mp Value.string mpI km [] :: mp (Value.int .i64) ptrK im M :: pt tp (treO0 sr) :: l) inferInstance S2
  have B1 : Blc H2 r _ := ⟨hs _ _ hr⟩
  (repeat (first | (refine Step.go ?_; intros) | refine iteB_t (by decide) ?_ | refine iteB_f (by decide) ?_ | (refine Duo.mk (by first | omega | exact rfl | decide) ?_; intros) | (refine Duo.mk (Clo.mk (by kernel_rfl)) ?_; intros)))
  have S3 : Sat H2 (mp Value.string mpI km [] :: has g :: pt z (grO km tp wm im) :: mp ptrK unitF wm [(r, ())] :: mp (Value.int .i64) ptrK im M :: pt tp (treO0 sr) :: l) := by
    refine S2.to ?_
    iterate 6 (apply Ent.pick; (focus (repeat (first | exact Sel.here | apply Sel.there))))
    exact Ent.refl
  clear S2
  refine callD_i (keyAdd_ok hr hk S3) ?_
  rintro _ H3 ⟨rfl, w, S4⟩
  (repeat (first | (refine Step.go ?_; intros) | refine iteB_t (by decide) ?_ | refine iteB_f (by decide) ?_ | (refine Duo.mk (by first | omega | exact rfl | decide) ?_; intros) | (refine Duo.mk (Clo.mk (by kernel_rfl)) ?_; intros)))
  refine ⟨rfl, w, S4.to ?_⟩
  iterate 7 (apply Ent.pick; (focus (repeat (first | exact Sel.here | apply Sel.there))))
  exact Ent.refl
theorem zzAdd_ok {z km tp wm im sr kb kc : Nat} {kr : List Value} {kf : Nat × Nat} (S : Sat H (pt kb (.cells ⟨bytesOf [107] ++ kr⟩ 5 kf) :: grp0 z km tp wm im sr l)) :
    CallsH Tryz.prog 38 ⟨[pA z, .int .i64 3, .slice (some (aA kb)) 1 kc, .slice none 0 0, .int .i64 0]⟩ H (fun e H1 => e = .returned (.tuple ⟨[]⟩) ∧ ∃ w r g ch, g r = some (watO kb kc 0 3 ch) ∧ g kb = some (.cells ⟨bytesOf [107] ++ kr⟩ 5 kf) ∧ Sat H1 (grp1 z km tp wm im sr w r g l)) := by
  refine F38.calls ?_
  unfold F38.go
  refine S.mkChan (t := 119) (el := 189) (d := .both) (ie := Tryz.t189) (by kernel_rfl) (by kernel_rfl) (by omega) (by omega) (by decide) fun ch H1 S1 => ?_
  clear S
  refine ⟨_, rfl, ?_⟩
  refine Step.go ?_
  intro r H2 S2
  clear S1
  obtain ⟨S3, _, g1⟩ := has_put ((has_nothing S2).to (by
    apply Ent.pick
    · exact Sel.there Sel.here
    exact Ent.refl))
  obtain ⟨S4, s2, g2⟩ := has_put (S3.to (l := has (put1 (fun _ => none) r _) :: _) (m := pt kb (.cells ⟨bytesOf [107] ++ kr⟩ 5 kf) :: has (put1 (fun _ => none) r (watO kb kc 0 3 ch)) :: grp0 z km tp wm im sr l) (by
    iterate 7 (apply Ent.pick; (focus (repeat (first | exact Sel.here | apply Sel.there))))
    exact Ent.drop Ent.refl))
  have g1' := s2 _ _ g1
  generalize put1 (put1 (fun _ => none) r (watO kb kc 0 3 ch)) kb (.cells ⟨bytesOf [107] ++ kr⟩ 5 kf) = g at S4 g1' g2
  clear S2 S3 g1 s2
  (repeat (first | (refine Step.go ?_; intros) | refine iteB_t (by decide) ?_ | refine iteB_f (by decide) ?_ | (refine Duo.mk (by first | omega | exact rfl | decide) ?_; intros) | (refine Duo.mk (Clo.mk (by kernel_rfl)) ?_; intros)))
  rename_i H5 S5
  refine callD_i (grpAdd_ok (M := [(3, r)]) (z := z) (km := km) (tp := tp) (wm := wm) (im := im) (sr := sr) (l := l) g1' g2 (S5.to ?_)) ?_
  · iterate 6 (apply Ent.pick; (focus (repeat (first | exact Sel.here | apply Sel.there))))
    exact Ent.refl
  rintro _ H6 ⟨rfl, w, S6⟩
  (repeat (first | (refine Step.go ?_; intros) | refine iteB_t (by decide) ?_ | refine iteB_f (by decide) ?_ | (refine Duo.mk (by first | omega | exact rfl | decide) ?_; intros) | (refine Duo.mk (Clo.mk (by kernel_rfl)) ?_; intros)))
  exact ⟨rfl, w, r, g, ch, g1', g2, S6⟩
theorem nilV_mk {P : Program} {t : TypeId} {x : Value} {k : Value → Prop} (h : k (.iface t x)) : nilV P (IV.v (.mk t x)) k := h
theorem inner_ok : CallsH Tryz.prog 64 ⟨[.string (ByteArray.mk #[107]), .string (ByteArray.mk #[107, 0])]⟩ H (Gives (.agg ⟨[.iface 181 (.string (ByteArray.mk #[107])), .iface 181 (.string (ByteArray.mk #[107, 0]))]⟩) H) := by
  have S := Sat.start H
  refine F64.calls ?_
  unfold F64.go
  (repeat (first | (refine Step.go ?_; intros) | refine iteB_t (by decide) ?_ | refine iteB_f (by decide) ?_ | (refine Duo.mk (by first | omega | exact rfl | decide) ?_; intros) | (refine Duo.mk (Clo.mk (by kernel_rfl)) ?_; intros)))
  exact ⟨rfl, Sat.grown⟩
theorem point_ok : CallsH Tryz.prog 67 ⟨[.string (ByteArray.mk #[107])]⟩ H (Gives (.agg ⟨[.iface 181 (.string (ByteArray.mk #[107])), .iface 181 (.string (ByteArray.mk #[107, 0]))]⟩) H) := by
  have S := Sat.start H
  refine F67.calls ?_
  unfold F67.go
  refine Step.go ?_
  intro r H1 S1
  refine ⟨by decide, ?_⟩
  refine gives_i S1 inner_ok fun H2 E2 S2 => ?_
  clear S1 S
  (repeat (first | (refine Step.go ?_; intros) | refine iteB_t (by decide) ?_ | refine iteB_f (by decide) ?_ | (refine Duo.mk (by first | omega | exact rfl | decide) ?_; intros) | (refine Duo.mk (Clo.mk (by kernel_rfl)) ?_; intros)))
  exact ⟨rfl, Sat.grown⟩
/-- Who watches the key. -/
theorem byKey_ok {z km tp wm im sr w r kb kc ch : Nat} {g : PH} (hr : g r = some (watO kb kc 0 3 ch)) (S : Sat H (grp1 z km tp wm im sr w r g l)) :
    CallsH Tryz.prog 42 ⟨[pA z, .string (ByteArray.mk #[107])]⟩ H (fun e H1 => ∃ q c, e = .returned (.slice q 1 c) ∧ Sat H1 (sl (fun n : Int => [.int .i64 n]) 2 1 q 1 c [3] :: l)) := by
  have set : CallsH Tryz.prog 56 ⟨[pA z, .string (ByteArray.mk #[107])]⟩ H (fun e H1 => e = .returned (.map (some w)) ∧ Sat H1 (grp1 z km tp wm im sr w r g l)) := by
    refine F56.calls ?_
    unfold F56.go
    (iterate 2 (refine Step.go ?_; intros))
    refine Step.go ?_
    refine Duo.mk (fun v hv => ?_) (fun hv => by cases hv)
    obtain rfl : w = v := by
      have : mget [(ByteArray.mk #[107], w)] (ByteArray.mk #[107]) = some w := if_pos rfl
      rw [this] at hv; exact Option.some.inj hv
    (repeat (first | (refine Step.go ?_; intros) | refine iteB_t (by decide) ?_ | refine iteB_f (by decide) ?_ | (refine Duo.mk (by first | omega | exact rfl | decide) ?_; intros) | (refine Duo.mk (Clo.mk (by kernel_rfl)) ?_; intros)))
    refine nilV_mk ?_
    refine gives_i S point_ok fun H2 E2 S2 => ?_
    clear S
    (repeat (first | (refine Step.go ?_; intros) | refine iteB_t (by decide) ?_ | refine iteB_f (by decide) ?_ | (refine Duo.mk (by first | omega | exact rfl | decide) ?_; intros) | (refine Duo.mk (Clo.mk (by kernel_rfl)) ?_; intros)))
    refine callI_i (f := 127) (by kernel_rfl) (by kernel_rfl) (by kernel_rfl) ?_
    have stab : CallsH Tryz.prog 127 ⟨[pA tp, .agg ⟨[.iface 181 (.string (ByteArray.mk #[107])), .iface 181 (.string (ByteArray.mk #[107, 0]))]⟩]⟩ H2 (fun e H1 => e = .returned (.slice none 0 0) ∧ Sat H1 (grp1 z km tp wm im sr w r g l)) := by
      refine F127.calls (iv_0 := .mk 181 (.string (ByteArray.mk #[107]))) (iv_1 := .mk 181 (.string (ByteArray.mk #[107, 0]))) ?_
      unfold F127.go
      (repeat (first | (refine Step.go ?_; intros) | refine iteB_t (by decide) ?_ | refine iteB_f (by decide) ?_ | (refine Duo.mk (by first | omega | exact rfl | decide) ?_; intros) | (refine Duo.mk (Clo.mk (by kernel_rfl)) ?_; intros)))
      have S9 := ‹Sat _ _›
      refine ⟨rfl, S9.to ?_⟩
      iterate 7 (apply Ent.pick; (focus (repeat (first | exact Sel.here | apply Sel.there))))
      exact Ent.drop (Ent.drop Ent.refl)
    refine callD_i stab ?_
    rintro _ H3 ⟨rfl, S3⟩
    (repeat (first | (refine Step.go ?_; intros) | refine iteB_t (by decide) ?_ | refine iteB_f (by decide) ?_ | (refine Duo.mk (by first | omega | exact rfl | decide) ?_; intros) | (refine Duo.mk (Clo.mk (by kernel_rfl)) ?_; intros)))
    exact ⟨rfl, S3⟩
  refine F42.calls ?_
  unfold F42.go
  (repeat (first | (refine Step.go ?_; intros) | refine iteB_t (by decide) ?_ | refine iteB_f (by decide) ?_ | (refine Duo.mk (by first | omega | exact rfl | decide) ?_; intros) | (refine Duo.mk (Clo.mk (by kernel_rfl)) ?_; intros)))
  refine callD_i set ?_
  rintro _ H1 ⟨rfl, S1⟩
  clear S
  refine ⟨_, rfl, ?_⟩
  have S2 : Sat H1 (mp ptrK unitF w [(r, ())] :: has g :: pt z (grO km tp wm im) :: mp Value.string mpI km [(ByteArray.mk #[107], w)] :: mp ptrK unitF wm [(r, ())] :: mp (Value.int .i64) ptrK im [(3, r)] :: pt tp (treO0 sr) :: l) := by
    refine S1.to ?_
    iterate 7 (apply Ent.pick; (focus (repeat (first | exact Sel.here | apply Sel.there))))
    exact Ent.refl
  clear S1
  obtain ⟨es, clk, F, S3⟩ := S2.mpOpen
  clear S2
  refine rangeNew um S3 fun ir H2 S4 => ?_
  clear S3
  refine ⟨_, rfl, ?_⟩
  have hes : ∃ e, es.toList = [e] ∧ e.key = ptrK r ∧ e.val = unitF () := by
    have he := F.eq
    match h : es.toList, he with
    | [e], he =>
      simp at he
      exact ⟨e, rfl, he.1, he.2⟩
    | [], he => simp at he
    | _ :: _ :: _, he => simp at he
  obtain ⟨e, he, hk, hv⟩ := hes
  have hun : unseen es #[] = [e] := by
    unfold unseen
    rw [he]; simp
  refine F42.L0_step ?_
  unfold F42.L0n
  refine rangeNext F S4 (fun h => by rw [hun] at h; cases h) ?_
  intro a e' b h1 h2 H3 S5
  clear S4
  rw [hun] at h1
  obtain ⟨rfl, rfl, rfl⟩ : a = [] ∧ e' = e ∧ b = [] := by
    cases a with
    | nil => simp at h1; exact ⟨rfl, h1.1.symm, h1.2⟩
    | cons x a => simp at h1
  rw [hk, hv]
  refine ⟨_, rfl, _, _, rfl, _, rfl, ?_⟩
  refine iteB_t rfl ?_
  refine ⟨_, _, rfl, _, rfl, _, _, rfl, _, rfl, rfl, rfl, ?_⟩
  refine rangeEntry F S5 (by rw [he]; exact List.mem_cons_self ..) ?_
  rw [hk, hv]
  refine ⟨_, rfl, _, _, rfl, _, rfl, _, _, rfl, _, rfl, rfl, rfl, ?_⟩
  have hs : PH.sub g (PH.of H3) := HasG.sub (l := pt ir (.mapIter (some w) clk (#[].push e'.born) clk) :: pt w (.map es clk) :: has g :: pt z (grO km tp wm im) :: mp Value.string mpI km [(ByteArray.mk #[107], w)] :: mp ptrK unitF wm [(r, ())] :: mp (Value.int .i64) ptrK im [(3, r)] :: pt tp (treO0 sr) :: l) inferInstance S5
  have B1 : Blc H3 r _ := ⟨hs _ _ hr⟩
  (repeat (first | (refine Step.go ?_; intros) | refine iteB_t (by decide) ?_ | refine iteB_f (by decide) ?_ | (refine Duo.mk (by first | omega | exact rfl | decide) ?_; intros) | (refine Duo.mk (Clo.mk (by kernel_rfl)) ?_; intros)))
  rename_i rr H4 S6
  clear S5
  have S7 : Sat H4 (sl (fun n : Int => [.int .i64 n]) 2 1 none 0 0 [] :: pt rr (.cells ⟨[.int .i64 3]⟩ 2) :: pt ir (.mapIter (some w) clk (#[].push e'.born) clk) :: pt w (.map es clk) :: l) := by
    refine S6.to (Ent.slNil ?_)
    iterate 3 (apply Ent.pick; (focus (repeat (first | exact Sel.here | apply Sel.there))))
    iterate 6 (refine Ent.drop ?_)
    exact Ent.refl
  refine S7.slApp (ys := [(3 : Int)]) (q := some ⟨rr, 0, none⟩) (d := 1) ?_ rfl (by simp) (by simp [isCell]) rfl (by decide) (by omega) fun q c H5 S8 => ?_
  · simp only [List.flatMap_cons, List.flatMap_nil, List.append_nil]
    exact cellsAt_one (S7.at_ (List.mem_cons_of_mem _ (List.mem_cons_self ..)))
  clear S6 S7
  refine F42.L0_step ?_
  unfold F42.L0n
  have S9 : Sat H5 (pt ir (.mapIter (some w) clk (#[].push e'.born) clk) :: pt w (.map es clk) :: sl (fun n : Int => [.int .i64 n]) 2 1 q 1 c [3] :: l) := by
    refine S8.to ?_
    iterate 3 (apply Ent.pick; (focus (repeat (first | exact Sel.here | apply Sel.there))))
    exact Ent.drop Ent.refl
  refine rangeNext F S9 (fun _ => ?_) (fun a x b h1 => by rw [h2] at h1; cases a <;> simp at h1)
  refine ⟨_, rfl, _, _, rfl, _, rfl, ?_⟩
  refine iteB_f rfl ?_
  refine ⟨rfl, q, c, rfl, S9.to ?_⟩
  exact Ent.drop (Ent.drop Ent.refl)
end
end Go.Proofs.YtobolifgehagfaaGreat
