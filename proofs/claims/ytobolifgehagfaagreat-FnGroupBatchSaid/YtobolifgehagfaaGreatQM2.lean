/- What functions of this seat do, each proved by a walk; no condition. -/
import Derived.Test.YtobolifgehagfaaGreatQM6
import Derived.Test.YtobolifgehagfaaGreatQM1
import Derived.Test.YtobolifgehagfaaGreatQD
set_option linter.unusedVariables false
set_option linter.unusedSimpArgs false
set_option linter.unnecessarySimpa false
namespace Go.Proofs.YtobolifgehagfaaGreat
open Go Go.Den Go.Proofs
theorem rangeNil {P : Program} {H : Heap} {t kt et : TypeId} {Q : List PanicEntry → Heap → Prop} {K : Value → Heap → Prop} {l : List HP} (hu : P.underlying t = some (.map kt et)) (S : Sat H l) (h : ∀ ir H1, Sat H1 (pt ir (.mapIter none 0 #[] 0) :: l) → K (.pointer (some ⟨ir, 0, none⟩)) H1) : valD P (Instr.range t (.map none)) H Q K := by
  refine ⟨?_⟩
  unfold Instr.range
  rw [SemH_bind]
  refine semH_of_pure (pureV_underlying hu) ?_
  dsimp only
  show K (.pointer (some ⟨H.size, 0, none⟩)) (H.push (.mapIter none 0 #[] 0))
  exact h _ _ (S.push _)
theorem nextNil {P : Program} {H : Heap} {ty : TypeId} {ir : Nat} {Q : List PanicEntry → Heap → Prop} {K : Value → Heap → Prop} {l : List HP} (S : Sat H (pt ir (.mapIter none 0 #[] 0) :: l)) (h : K (.tuple #[.bool false]) H) : valD P (Instr.next (.pointer (some ⟨ir, 0, none⟩)) false ty) H Q K := by
  have hi : H[ir]? = some (.mapIter none 0 #[] 0) := S.at_ (List.mem_cons_self ..)
  refine ⟨?_⟩
  unfold Instr.next
  show SemH P (getObj ir >>= _) _ _ _
  rw [SemH_bind, SemH_getObj]
  refine ⟨_, hi, rfl, ?_⟩
  exact h
abbrev unitL (l : List Nat) : List (Nat × Unit) := l.map fun r => (r, ())
def sets {κ : Type} (f : κ → List Nat) : List (κ × Nat) → HP
  | [] => star []
  | x :: Z => star [mp ptrK unitF x.2 (unitL (f x.1)), sets f Z]
section
variable {κ : Type} {f f' : κ → List Nat} {l : List HP}
theorem sets_nil : Ent l (sets f [] :: l) := Ent.star .refl
theorem sets_cons {k : κ} {o : Nat} {Z : List (κ × Nat)} : Ent (mp ptrK unitF o (unitL (f k)) :: sets f Z :: l) (sets f ((k, o) :: Z) :: l) := Ent.star .refl
theorem sets_uncons {k : κ} {o : Nat} {Z : List (κ × Nat)} : Ent (sets f ((k, o) :: Z) :: l) (mp ptrK unitF o (unitL (f k)) :: sets f Z :: l) := Ent.starL .refl
theorem sets_out {k : κ} {o : Nat} {B : List (κ × Nat)} : ∀ {A : List (κ × Nat)}, Ent (sets f (A ++ (k, o) :: B) :: l) (mp ptrK unitF o (unitL (f k)) :: sets f (A ++ B) :: l)
  | [] => sets_uncons
  | (k', o') :: A => by
    refine Ent.trans (sets_uncons (Z := A ++ (k, o) :: B)) ?_
    refine Ent.trans (Ent.cons (sets_out (A := A))) ?_
    refine Ent.trans ?_ (Ent.cons (sets_cons (k := k') (o := o') (Z := A ++ B)))
    iterate 3 (apply Ent.pick; (focus (repeat (first | exact Sel.here | apply Sel.there))))
    exact Ent.refl
theorem sets_in {k : κ} {o : Nat} {B : List (κ × Nat)} : ∀ {A : List (κ × Nat)}, Ent (mp ptrK unitF o (unitL (f k)) :: sets f (A ++ B) :: l) (sets f (A ++ (k, o) :: B) :: l)
  | [] => sets_cons
  | (k', o') :: A => by
    refine Ent.trans ?_ (sets_cons (Z := A ++ (k, o) :: B))
    refine Ent.trans (Ent.cons (sets_uncons (k := k') (o := o') (Z := A ++ B))) ?_
    refine Ent.trans ?_ (Ent.cons (sets_in (A := A)))
    iterate 3 (apply Ent.pick; (focus (repeat (first | exact Sel.here | apply Sel.there))))
    exact Ent.refl
theorem sets_snoc {k : κ} {o : Nat} {Z : List (κ × Nat)} : Ent (mp ptrK unitF o (unitL (f k)) :: sets f Z :: l) (sets f (Z ++ [(k, o)]) :: l) := by
  have := sets_in (f := f) (l := l) (k := k) (o := o) (A := Z) (B := [])
  rwa [List.append_nil] at this
theorem sets_congr : ∀ {Z : List (κ × Nat)}, (∀ x ∈ Z, f x.1 = f' x.1) → sets f Z = sets f' Z
  | [], _ => rfl
  | x :: Z, h => by
    unfold sets
    rw [h x (List.mem_cons_self ..), sets_congr fun y hy => h y (List.mem_cons_of_mem _ hy)]
end
theorem mget_unit {L : List Nat} {r : Nat} : mget (unitL L) r = if r ∈ L then some () else none := by
  induction L with
  | nil => simp [mget]
  | cons a L ih =>
    show (if r = a then some () else mget (unitL L) r) = _
    rw [ih]
    by_cases h : r = a
    · simp [h]
    · simp [h]
section
variable {H H0 : Heap} {l : List HP}
theorem setPut_ok {g : PH} {w r : Nat} {L : List Nat} (hr : plainG g r) (hL : ∀ x ∈ L, plainG g x) (hn : r ∉ L) (S : Sat H (mp ptrK unitF w (unitL L) :: has g :: l)) : CallsH Tryz.prog 62 ⟨[.map (some w), pA r]⟩ H (fun e H1 => e = .returned (.tuple ⟨[]⟩) ∧ Sat H1 (mp ptrK unitF w (unitL (L ++ [r])) :: has g :: l)) := by
  have hs : PH.sub g (PH.of H) := HasG.sub (l := mp ptrK unitF w (unitL L) :: has g :: l) inferInstance S
  have hp : ∀ {H : Heap}, PH.sub g (PH.of H) → ∀ x ∈ unitL L, plainB H x.1 := by
    intro H hs x hx
    obtain ⟨y, hy, rfl⟩ := List.mem_map.1 hx
    exact (hL y hy).at_ hs
  have hg : mget (unitL L) r = none := by rw [mget_unit, if_neg hn]
  refine F62.calls ?_
  unfold F62.go
  refine Sat.lookupK (r := r) PM1 S (List.mem_cons_self ..) (hr.at_ hs) (hp hs) (fun v hv => by rw [hg] at hv; cases hv) (fun _ => ?_)
  show tTup (.tuple ⟨[.agg ⟨[]⟩, .bool false]⟩) _
  (repeat (first | (refine Step.go ?_; intros) | refine iteB_t (by decide) ?_ | refine iteB_f (by decide) ?_ | (refine Duo.mk (by first | omega | exact rfl | decide) ?_; intros) | (refine Duo.mk (Clo.mk (by kernel_rfl)) ?_; intros)))
  rename_i r2 H2 S2
  have S3 : Sat H2 (mp ptrK unitF w (unitL L) :: has g :: l) := by
    refine S2.to ?_
    iterate 2 (apply Ent.pick; (focus (repeat (first | exact Sel.here | apply Sel.there))))
    exact Ent.drop Ent.refl
  have hs2 : PH.sub g (PH.of H2) := HasG.sub (l := mp ptrK unitF w (unitL L) :: has g :: l) inferInstance S3
  refine S3.mpSetK PM1 (hr.at_ hs2) (hp hs2) hg () fun H3 S4 => ?_
  refine ⟨rfl, ?_⟩
  have e : unitL (L ++ [r]) = unitL L ++ [(r, ())] := by simp
  rw [e]
  exact S4
theorem newTree_ok (S : Sat H l) : CallsH Tryz.prog 51 ⟨[]⟩ H (fun e H1 => ∃ tp sr, e = .returned (.iface 147 (pA tp)) ∧ Sat H1 (pt tp (treO sr 0 sr) :: pt sr senO :: l)) := by
  refine F51.calls ?_
  unfold F51.go
  (repeat (first | (refine Step.go ?_; intros) | refine iteB_t (by decide) ?_ | refine iteB_f (by decide) ?_ | (refine Duo.mk (by first | omega | exact rfl | decide) ?_; intros) | (refine Duo.mk (Clo.mk (by kernel_rfl)) ?_; intros)))
  rename_i sr H1 S1 tp H2 S2
  exact ⟨tp, sr, rfl, S2⟩
theorem emptyGroup_ok (S : Sat H l) : CallsH Tryz.prog 23 ⟨[]⟩ H (fun e H1 => ∃ z km tp wm im sr, e = .returned (pA z) ∧ Sat H1 (pt z (grO km tp wm im) :: mp Value.string mpI km [] :: mp ptrK unitF wm [] :: mp (Value.int .i64) ptrK im [] :: pt tp (treO sr 0 sr) :: pt sr senO :: l)) := by
  refine F23.calls ?_
  unfold F23.go
  have inner : CallsH Tryz.prog 35 ⟨[]⟩ H (fun e H1 => ∃ km tp wm sr, e = .returned (.agg ⟨[.map (some km), .iface 147 (pA tp), .map (some wm)]⟩) ∧ Sat H1 (pt km (.map #[] 0) :: pt wm (.map #[] 0) :: pt tp (treO sr 0 sr) :: pt sr senO :: l)) := by
    refine F35.calls ?_
    unfold F35.go
    refine Step.go ?_
    intro r H1 S1
    refine Step.go ?_
    intro km H2 S2
    clear S S1
    refine callD_i (newTree_ok S2) ?_
    rintro _ H3 ⟨tp, sr, rfl, S3⟩
    clear S2
    (repeat (first | (refine Step.go ?_; intros) | refine iteB_t (by decide) ?_ | refine iteB_f (by decide) ?_ | (refine Duo.mk (by first | omega | exact rfl | decide) ?_; intros) | (refine Duo.mk (Clo.mk (by kernel_rfl)) ?_; intros)))
    show guardB true _
    (repeat (first | (refine Step.go ?_; intros) | refine iteB_t (by decide) ?_ | refine iteB_f (by decide) ?_ | (refine Duo.mk (by first | omega | exact rfl | decide) ?_; intros) | (refine Duo.mk (Clo.mk (by kernel_rfl)) ?_; intros)))
    have S9 := ‹Sat _ _›
    refine ⟨km, tp, _, sr, rfl, S9.to ?_⟩
    iterate 4 (apply Ent.pick; (focus (repeat (first | exact Sel.here | apply Sel.there))))
    exact Ent.drop Ent.refl
  refine callD_i inner ?_
  rintro _ H1 ⟨km, tp, wm, sr, rfl, S1⟩
  clear S
  (repeat (first | (refine Step.go ?_; intros) | refine iteB_t (by decide) ?_ | refine iteB_f (by decide) ?_ | (refine Duo.mk (by first | omega | exact rfl | decide) ?_; intros) | (refine Duo.mk (Clo.mk (by kernel_rfl)) ?_; intros)))
  rename_i im H2 S2 z H3 S3
  have S4 : Sat H3 (pt km (.map #[] 0) :: pt z (grO km tp wm im) :: pt wm (.map #[] 0) :: pt im (.map #[] 0) :: pt tp (treO sr 0 sr) :: pt sr senO :: l) := by
    refine S3.to ?_
    iterate 6 (apply Ent.pick; (focus (repeat (first | exact Sel.here | apply Sel.there))))
    exact Ent.refl
  have S5 := S4.mpNew Value.string mpI
  have S6 : Sat H3 (pt wm (.map #[] 0) :: mp Value.string mpI km [] :: pt z (grO km tp wm im) :: pt im (.map #[] 0) :: pt tp (treO sr 0 sr) :: pt sr senO :: l) := by
    refine S5.to ?_
    iterate 6 (apply Ent.pick; (focus (repeat (first | exact Sel.here | apply Sel.there))))
    exact Ent.refl
  have S7 := S6.mpNew ptrK unitF
  have S8 : Sat H3 (pt im (.map #[] 0) :: mp ptrK unitF wm [] :: mp Value.string mpI km [] :: pt z (grO km tp wm im) :: pt tp (treO sr 0 sr) :: pt sr senO :: l) := by
    refine S7.to ?_
    iterate 6 (apply Ent.pick; (focus (repeat (first | exact Sel.here | apply Sel.there))))
    exact Ent.refl
  have S9 := S8.mpNew (Value.int .i64) ptrK
  refine ⟨z, km, tp, wm, im, sr, rfl, S9.to ?_⟩
  iterate 6 (apply Ent.pick; (focus (repeat (first | exact Sel.here | apply Sel.there))))
  exact Ent.refl
end
end Go.Proofs.YtobolifgehagfaaGreat

set_option linter.unusedVariables false
set_option linter.unusedSimpArgs false
set_option linter.unnecessarySimpa false
namespace Go.Proofs.YtobolifgehagfaaGreat
open Go Go.Den Go.Proofs
theorem wget_none {κ ν : Type} [DecidableEq κ] {k : κ} : ∀ {m : List (κ × ν)}, mget m k = none ↔ k ∉ m.map (·.1)
  | [] => by simp [mget]
  | (a, v) :: m => by
    show (if k = a then some v else mget m k) = none ↔ _
    by_cases h : k = a
    · simp [h]
    · rw [if_neg h, wget_none]
      simp [h]
theorem wget_some {κ ν : Type} [DecidableEq κ] {k : κ} {v : ν} : ∀ {m : List (κ × ν)}, mget m k = some v → ∃ A B, m = A ++ (k, v) :: B
  | [], h => by cases h
  | (a, w) :: m, h => by
    have h : (if k = a then some w else mget m k) = some v := h
    by_cases ha : k = a
    · rw [if_pos ha] at h
      cases h; subst ha
      exact ⟨[], m, rfl⟩
    · rw [if_neg ha] at h
      obtain ⟨A, B, rfl⟩ := wget_some h
      exact ⟨(a, w) :: A, B, rfl⟩
theorem bs_i {H : Heap} {r : Nat} {s : ByteArray} {kr : List Value} {T : TypeId} {f : Nat × Nat} {k : ByteArray → Prop} (hk : H[r]? = some (.cells ⟨bytesOf s.data.toList ++ kr⟩ T f)) (h : k s) : bsD H (some (aA r)) s.size k :=
  ⟨s.data.toList, rfl, cellsAt_block (s := s) hk, h⟩
theorem sep_has {H : Heap} {l : List HP} {g : PH} {r : Nat} {o : Obj} (S : Sat H (pt r o :: has g :: l)) : g r = none := by
  obtain ⟨h, h1, h2, h', h3, h4, x⟩ := S.out
  cases e : g r with
  | none => rfl
  | some y =>
    have e1 := (PH.of_minus (h4 _ _ (h3 _ _ e))).1
    have e2 : h r = some o := h1
    rw [e2] at e1; cases e1
structure Wa where
  id : Int
  key : ByteArray
  e : ByteArray
  he : Bool
  m : Int
abbrev Wa.cells (x : Wa) : List Value := [.int .i64 x.id, .string x.key, .string x.e, .bool x.he, .int .i64 x.m]
abbrev wtO (x : Wa) (kb kc : Nat) (ep : Option Addr) (en ec ch : Nat) : Obj := .cells ⟨[.slice (some (aA kb)) x.key.size kc, .slice ep en ec, .bool false, .bool false, .bool false, .int .i64 0, .int .i64 x.m, .int .i64 x.id, .slice none 0 0, .chan (some ch)]⟩ 123
def BytG (g : PH) (r : Nat) (s : ByteArray) : Prop := ∃ kr kf, g r = some (.cells ⟨bytesOf s.data.toList ++ kr⟩ 5 kf)
def EndG (g : PH) (x : Wa) (ep : Option Addr) (en : Nat) : Prop := if x.he then ∃ eb, ep = some (aA eb) ∧ en = x.e.size ∧ BytG g eb x.e else ep = none
def WaG (g : PH) (x : Wa) (r : Nat) : Prop := ∃ kb kc ep en ec ch, g r = some (wtO x kb kc ep en ec ch) ∧ BytG g kb x.key ∧ EndG g x ep en
theorem BytG.mono {g g' : PH} {r : Nat} {s : ByteArray} (h : BytG g r s) (hs : PH.sub g g') : BytG g' r s := let ⟨a, b, c⟩ := h; ⟨a, b, hs _ _ c⟩
theorem EndG.mono {g g' : PH} {x : Wa} {ep : Option Addr} {en : Nat} (h : EndG g x ep en) (hs : PH.sub g g') : EndG g' x ep en := by
  unfold EndG at h ⊢
  split
  · rename_i hx
    rw [if_pos hx] at h
    obtain ⟨eb, a, b, c⟩ := h
    exact ⟨eb, a, b, c.mono hs⟩
  · rename_i hx
    rw [if_neg hx] at h
    exact h
theorem WaG.mono {g g' : PH} {x : Wa} {r : Nat} (h : WaG g x r) (hs : PH.sub g g') : WaG g' x r := by
  obtain ⟨kb, kc, ep, en, ec, ch, h1, h2, h3⟩ := h
  exact ⟨kb, kc, ep, en, ec, ch, hs _ _ h1, h2.mono hs, h3.mono hs⟩
theorem WaG.plain {g : PH} {x : Wa} {r : Nat} (h : WaG g x r) : plainG g r := by
  obtain ⟨kb, kc, ep, en, ec, ch, h1, h2, h3⟩ := h
  exact ⟨_, _, 0, h1⟩
def more {κ : Type} [DecidableEq κ] (f : κ → List Nat) (k : κ) (r : Nat) : κ → List Nat := fun k' => if k' = k then f k' ++ [r] else f k'
theorem more_at {κ : Type} [DecidableEq κ] {f : κ → List Nat} {k : κ} {r : Nat} : more f k r k = f k ++ [r] := if_pos rfl
theorem more_not {κ : Type} [DecidableEq κ] {f : κ → List Nat} {k k' : κ} {r : Nat} (h : k' ≠ k) : more f k r k' = f k' := if_neg h
theorem mid_nodup {κ : Type} {A B : List (κ × Nat)} {k : κ} {o : Nat} (h : ((A ++ (k, o) :: B).map (·.1)).Nodup) : ∀ x ∈ A ++ B, x.1 ≠ k := by
  intro x hx e
  rw [List.map_append, List.map_cons, List.nodup_append, List.nodup_cons] at h
  obtain ⟨_, ⟨h1, _⟩, h2⟩ := h
  rcases List.mem_append.1 hx with hx | hx
  · exact h2 x.1 (List.mem_map_of_mem hx) k (List.mem_cons_self ..) e
  · exact h1 (List.mem_map.2 ⟨x, hx, e⟩)
section
variable {H H0 : Heap} {l : List HP}
theorem keyPut_ok {g : PH} {km r : Nat} {x : Wa} {f : ByteArray → List Nat} {ZK : List (ByteArray × Nat)} (hr : WaG g x r) (hf : ∀ y ∈ f x.key, plainG g y) (hn : r ∉ f x.key) (hz : (ZK.map (·.1)).Nodup) (h0 : x.key ∉ ZK.map (·.1) → f x.key = [])
    (S : Sat H (mp Value.string mpI km ZK :: sets f ZK :: has g :: l)) :
    CallsH Tryz.prog 63 ⟨[.map (some km), pA r]⟩ H (fun e H1 => e = .returned (.tuple ⟨[]⟩) ∧ ∃ ZK', (ZK'.map (·.1)).Nodup ∧ (∀ k, k ∈ ZK'.map (·.1) ↔ k = x.key ∨ k ∈ ZK.map (·.1)) ∧ Sat H1 (mp Value.string mpI km ZK' :: sets (more f x.key r) ZK' :: has g :: l)) := by
  have hs : PH.sub g (PH.of H) := HasG.sub (l := mp Value.string mpI km ZK :: sets f ZK :: has g :: l) inferInstance S
  have hp := hr.plain
  obtain ⟨kb, kc, ep, en, ec, ch, w1, ⟨kr, kf, w2⟩, w3⟩ := hr
  refine F63.calls ?_
  unfold F63.go
  have B1 : Blc H r _ := ⟨hs _ _ w1⟩
  (repeat (first | (refine Step.go ?_; intros) | refine iteB_t (by decide) ?_ | refine iteB_f (by decide) ?_ | (refine Duo.mk (by first | omega | exact rfl | decide) ?_; intros) | (refine Duo.mk (Clo.mk (by kernel_rfl)) ?_; intros)))
  refine bs_i (hs _ _ w2) ?_
  refine Step.go ?_
  refine Duo.mk (fun o ho => ?_) (fun ho => ?_)
  · obtain ⟨A, B, rfl⟩ := wget_some ho
    (repeat (first | (refine Step.go ?_; intros) | refine iteB_t (by decide) ?_ | refine iteB_f (by decide) ?_ | (refine Duo.mk (by first | omega | exact rfl | decide) ?_; intros) | (refine Duo.mk (Clo.mk (by kernel_rfl)) ?_; intros)))
    have S1 : Sat H (sets f (A ++ (x.key, o) :: B) :: has g :: mp Value.string mpI km (A ++ (x.key, o) :: B) :: l) := by
      refine S.to ?_
      iterate 3 (apply Ent.pick; (focus (repeat (first | exact Sel.here | apply Sel.there))))
      exact Ent.refl
    clear S
    have S2 : Sat H (mp ptrK unitF o (unitL (f x.key)) :: has g :: sets f (A ++ B) :: mp Value.string mpI km (A ++ (x.key, o) :: B) :: l) := by
      refine (S1.to sets_out).to ?_
      iterate 4 (apply Ent.pick; (focus (repeat (first | exact Sel.here | apply Sel.there))))
      exact Ent.refl
    clear S1
    refine callD_i (setPut_ok hp hf hn S2) ?_
    rintro _ H3 ⟨rfl, S3⟩
    clear S2
    (repeat (first | (refine Step.go ?_; intros) | refine iteB_t (by decide) ?_ | refine iteB_f (by decide) ?_ | (refine Duo.mk (by first | omega | exact rfl | decide) ?_; intros) | (refine Duo.mk (Clo.mk (by kernel_rfl)) ?_; intros)))
    refine ⟨rfl, A ++ (x.key, o) :: B, hz, fun k => ?_, ?_⟩
    · constructor
      · exact .inr
      · rintro (rfl | h)
        · simp
        · exact h
    · have e1 : sets f (A ++ B) = sets (more f x.key r) (A ++ B) := sets_congr fun y hy => (more_not (mid_nodup hz y hy)).symm
      rw [e1, ← more_at (f := f) (k := x.key) (r := r)] at S3
      have S4 : Sat H3 (mp ptrK unitF o (unitL (more f x.key r x.key)) :: sets (more f x.key r) (A ++ B) :: mp Value.string mpI km (A ++ (x.key, o) :: B) :: has g :: l) := by
        refine S3.to ?_
        iterate 4 (apply Ent.pick; (focus (repeat (first | exact Sel.here | apply Sel.there))))
        exact Ent.refl
      refine (S4.to sets_in).to ?_
      iterate 3 (apply Ent.pick; (focus (repeat (first | exact Sel.here | apply Sel.there))))
      exact Ent.refl
  · have hk := wget_none.1 ho
    have hf0 := h0 hk
    (repeat (first | (refine Step.go ?_; intros) | refine iteB_t (by decide) ?_ | refine iteB_f (by decide) ?_ | (refine Duo.mk (by first | omega | exact rfl | decide) ?_; intros) | (refine Duo.mk (Clo.mk (by kernel_rfl)) ?_; intros)))
    rename_i o H2 S2
    have hs2 : PH.sub g (PH.of H2) := HasG.sub (l := pt o (.map #[] 0) :: mp Value.string mpI km ZK :: sets f ZK :: has g :: l) inferInstance S2
    have B2 : Blc H2 r _ := ⟨hs2 _ _ w1⟩
    (repeat (first | (refine Step.go ?_; intros) | refine iteB_t (by decide) ?_ | refine iteB_f (by decide) ?_ | (refine Duo.mk (by first | omega | exact rfl | decide) ?_; intros) | (refine Duo.mk (Clo.mk (by kernel_rfl)) ?_; intros)))
    refine bs_i (hs2 _ _ w2) ?_
    refine Step.go ?_
    intro H3 S3
    clear S S2
    have S4 := S3.mpNew ptrK unitF
    rw [mset_none ho] at S4
    have S5 : Sat H3 (mp ptrK unitF o (unitL []) :: has g :: mp Value.string mpI km (ZK ++ [(x.key, o)]) :: sets f ZK :: l) := by
      refine S4.to ?_
      iterate 4 (apply Ent.pick; (focus (repeat (first | exact Sel.here | apply Sel.there))))
      exact Ent.refl
    clear S3 S4
    refine callD_i (setPut_ok (L := []) hp (fun y hy => by cases hy) (by simp) S5) ?_
    rintro _ H4 ⟨rfl, S6⟩
    clear S5
    (repeat (first | (refine Step.go ?_; intros) | refine iteB_t (by decide) ?_ | refine iteB_f (by decide) ?_ | (refine Duo.mk (by first | omega | exact rfl | decide) ?_; intros) | (refine Duo.mk (Clo.mk (by kernel_rfl)) ?_; intros)))
    refine ⟨rfl, ZK ++ [(x.key, o)], ?_, fun k => ?_, ?_⟩
    · rw [List.map_append, List.nodup_append]
      refine ⟨hz, by simp, ?_⟩
      intro a ha b hb e
      simp only [List.map_cons, List.map_nil, List.mem_singleton] at hb
      rw [hb] at e; rw [e] at ha
      exact hk ha
    · simp only [List.map_append, List.map_cons, List.map_nil, List.mem_append, List.mem_singleton]
      exact Or.comm
    · have e1 : sets f ZK = sets (more f x.key r) ZK := sets_congr fun y hy => (more_not (fun e => hk (List.mem_map.2 ⟨y, hy, e⟩))).symm
      have e2 : more f x.key r x.key = [] ++ [r] := by rw [more_at, hf0]
      rw [e1, ← e2] at S6
      have S7 : Sat H4 (mp ptrK unitF o (unitL (more f x.key r x.key)) :: sets (more f x.key r) ZK :: mp Value.string mpI km (ZK ++ [(x.key, o)]) :: has g :: l) := by
        refine S6.to ?_
        iterate 4 (apply Ent.pick; (focus (repeat (first | exact Sel.here | apply Sel.there))))
        exact Ent.refl
      refine (S7.to sets_snoc).to ?_
      iterate 3 (apply Ent.pick; (focus (repeat (first | exact Sel.here | apply Sel.there))))
      exact Ent.refl
end
end Go.Proofs.YtobolifgehagfaaGreat

set_option linter.unusedVariables false
set_option linter.unusedSimpArgs false
set_option linter.unnecessarySimpa false
namespace Go.Proofs.YtobolifgehagfaaGreat
open Go Go.Den Go.Proofs
def g0 : PH := fun _ => none
theorem g0_sub (H : Heap) : PH.sub g0 (PH.of H) := fun b o e => by cases e
theorem affG (k : ByteArray) : IsG g0 1 (.mk 181 (.string k)) (k, 0) := fun _ _ => IsE.aff (x := (k, 0))
theorem eqS_eq {a b : ByteArray} (h : eqS a b = true) : a = b := by
  unfold eqS at h
  rw [ByteArray.toList_eq, ByteArray.toList_eq] at h
  obtain ⟨⟨a⟩⟩ := a
  obtain ⟨⟨b⟩⟩ := b
  have h : a = b := eq_of_beq h
  rw [h]
theorem cmp_same {x y : EN} : (cmpE 1 x y == 0) = true ↔ x.1 = y.1 := by
  rw [cmpE_zero]
  have L : ∀ u v : EN, ltE 1 u v = if ¬ (u.1.size = 0 ↔ v.1.size = 0) then decide (v.1.size = 0) else ltS u.1 v.1 := by
    intro u v
    unfold ltE
    rw [if_neg (by decide)]
    by_cases h : (u.1.size = 0 ↔ v.1.size = 0)
    · rw [if_neg (fun e => e.2 h), if_neg (fun e => e h)]
    · rw [if_pos ⟨by decide, h⟩, if_pos h]
  rw [L, L]
  constructor
  · intro h
    by_cases hm : (x.1.size = 0 ↔ y.1.size = 0)
    · rw [if_neg (fun e => e hm), if_neg (fun e => e hm.symm)] at h
      simp only [Bool.and_eq_true, Bool.not_eq_true'] at h
      have := ltS_flip x.1 y.1
      rw [h.1, h.2] at this
      exact eqS_eq (by simpa using this)
    · rw [if_pos hm, if_pos (fun e => hm e.symm)] at h
      simp only [Bool.and_eq_true, Bool.not_eq_true', decide_eq_false_iff_not] at h
      exact absurd ⟨fun e => absurd e h.2, fun e => absurd e h.1⟩ hm
  · intro h
    rw [h, if_neg (by simp)]
    have : ltS y.1 y.1 = false := by
      cases e : ltS y.1 y.1 with
      | false => rfl
      | true => have := ltS_asymm e; rw [e] at this; cases this
    rw [this]; rfl
theorem hit_same {B E : EN} {it : It} : hitI 1 B E it = true ↔ B.1 = it.B.1 ∧ E.1 = it.E.1 := by
  unfold hitI
  rw [Bool.and_eq_true, cmp_same, cmp_same]
theorem putI_perm {o : Int} {z : It} : ∀ (l : List It), (putI o z l).Perm (z :: l)
  | [] => .refl _
  | y :: l => by
    unfold putI
    split
    · exact .refl _
    · exact ((putI_perm l).cons y).trans (.swap ..)
theorem trH_node {H : Heap} {g : PH} {o : Int} {sr : Nat} {it : It} : ∀ (T : Tr) (p : Nat), TrH H g o sr p T → it ∈ T.inL → ∃ m l r p c, Blk H it.r (ndO it m l r p c)
  | .nil, _, _, h => by cases h
  | .node z c a b, p, ⟨h1, h2, ⟨m, h3, h4⟩, h5, h6⟩, h => by
    rw [Tr.inL] at h
    rcases List.mem_append.1 h with h | h
    · exact trH_node a _ h5 h
    · rcases List.mem_cons.1 h with rfl | h
      · exact ⟨_, _, _, _, _, h4⟩
      · exact trH_node b _ h6 h
abbrev RK2 := ByteArray × ByteArray
abbrev mIV (o : Nat) : IV := .mk 94 (.map (some o))
def itK (it : It) : RK2 × IV := ((it.B.1, it.E.1), it.v)
structure RgI (T : Tr) (ZR : List (RK2 × Nat)) : Prop where
  rb : RB T
  srt : Srt 1 T.inL
  prop : ∀ it ∈ T.inL, ltE 1 it.B it.E = true
  its : (T.inL.map itK).Perm (ZR.map fun x => (x.1, mIV x.2))
  nd : (ZR.map (·.1)).Nodup
theorem RgI.len {T : Tr} {ZR : List (RK2 × Nat)} (h : RgI T ZR) : T.inL.length = ZR.length := by
  have := h.its.length_eq
  simpa using this
theorem RgI.none {T : Tr} {ZR : List (RK2 × Nat)} {b e : ByteArray} (h : RgI T ZR) (hf : findT 1 (b, 0) (e, 0) T = .nil) : (b, e) ∉ ZR.map (·.1) := by
  intro hm
  obtain ⟨y, hy, hy2⟩ := List.mem_map.1 hm
  have h1 : (y.1, mIV y.2) ∈ T.inL.map itK := h.its.mem_iff.2 (List.mem_map_of_mem hy)
  obtain ⟨it, hit, h2⟩ := List.mem_map.1 h1
  have h3 := (findT_ok T h.srt).2 hf it hit
  have h4 : hitI 1 (b, 0) (e, 0) it = true := by
    rw [hit_same]
    unfold itK at h2
    have e1 := congrArg Prod.fst h2
    dsimp only at e1
    rw [hy2] at e1
    have e2 := congrArg Prod.fst e1
    have e3 := congrArg Prod.snd e1
    exact ⟨e2.symm, e3.symm⟩
  rw [h3] at h4; cases h4
theorem RgI.some {T : Tr} {ZR : List (RK2 × Nat)} {b e : ByteArray} (h : RgI T ZR) {it : It} {c : Bool} {l r : Tr} (hf : findT 1 (b, 0) (e, 0) T = .node it c l r) : it ∈ T.inL ∧ ∃ o A B, it.v = mIV o ∧ ZR = A ++ ((b, e), o) :: B := by
  obtain ⟨h1, h2⟩ := (findT_ok T h.srt).1 _ _ _ _ hf
  obtain ⟨h3, h4⟩ := hit_same.1 h2
  have h5 := h.its.mem_iff.1 (List.mem_map_of_mem (f := itK) h1)
  obtain ⟨y, hy, h6⟩ := List.mem_map.1 h5
  unfold itK at h6
  have e1 := congrArg Prod.fst h6
  have e2 := congrArg Prod.snd h6
  dsimp only at e1 e2 h3 h4
  obtain ⟨A, B, rfl⟩ := List.append_of_mem hy
  refine ⟨h1, y.2, A, B, e2.symm, ?_⟩
  rw [h3, h4, ← e1]
theorem RgI.insert {T : Tr} {ZR : List (RK2 × Nat)} {r o : Nat} {i j : IV} {b e : ByteArray} (h : RgI T ZR) (hp : ltE 1 (b, 0) (e, 0) = true) (hn : (b, e) ∉ ZR.map (·.1)) : RgI (ins 1 ⟨r, i, j, mIV o, (b, 0), (e, 0)⟩ T) (ZR ++ [((b, e), o)]) := by
  obtain ⟨h1, h2⟩ := ins_ok (z := ⟨r, i, j, mIV o, (b, 0), (e, 0)⟩) h.rb h.srt
  refine ⟨h1, by rw [h2]; exact putI_srt h.srt, ?_, ?_, ?_⟩
  · intro it hit
    rw [h2] at hit
    rcases putI_mem.1 hit with rfl | hit
    · exact hp
    · exact h.prop it hit
  · rw [h2, List.map_append]
    refine ((putI_perm _).map itK).trans ?_
    rw [List.map_cons]
    refine (h.its.cons _).trans ?_
    exact (List.perm_append_comm (l₁ := [(((b, e) : RK2), mIV o)]))
  · rw [List.map_append, List.nodup_append]
    refine ⟨h.nd, by simp, ?_⟩
    intro a ha b hb e
    simp only [List.map_cons, List.map_nil, List.mem_singleton] at hb
    rw [hb] at e; rw [e] at ha
    exact hn ha
abbrev trPs (sr tp : Nat) (T : Tr) (l : List HP) : List HP := tr g0 1 sr sr T :: pt tp (treO (T.ref sr) (T.inL.length : Nat) sr) :: pt sr senO :: l
end Go.Proofs.YtobolifgehagfaaGreat

set_option linter.unusedVariables false
set_option linter.unusedSimpArgs false
set_option linter.unnecessarySimpa false
namespace Go.Proofs.YtobolifgehagfaaGreat
open Go Go.Den Go.Proofs
section
variable {H H0 : Heap} {l : List HP}
theorem rangePut_ok {g : PH} {z km tp wm im r v sr : Nat} {b e : ByteArray} {f : RK2 → List Nat} {ZR : List (RK2 × Nat)} {T : Tr} {R : Ending → Heap → Prop} (hr : plainG g r) (hf : ∀ y ∈ f (b, e), plainG g y) (hn : r ∉ f (b, e)) (h0 : (b, e) ∉ ZR.map (·.1) → f (b, e) = []) (hI : RgI T ZR) (hp : ltE 1 (b, 0) (e, 0) = true) (hl : ZR.length ≤ 1000000)
    (S : Sat H (pt v (.cells ⟨[.iface 181 (.string b), .iface 181 (.string e)]⟩ 141) :: pt z (grO km tp wm im) :: has g :: sets f ZR :: trPs sr tp T l))
    (fin : ∀ H1 T' ZR', RgI T' ZR' → (∀ c, c ∈ ZR'.map (·.1) ↔ c = (b, e) ∨ c ∈ ZR.map (·.1)) → Sat H1 (pt z (grO km tp wm im) :: has g :: sets (more f (b, e) r) ZR' :: trPs sr tp T' l) → R (.returned (.tuple ⟨[]⟩)) H1) :
    F53.L0 (some (aA z)) (some (aA r)) v H R := by
  refine F53.L0_step ?_
  unfold F53.L0n
  (repeat (first | (refine Step.go ?_; intros) | refine iteB_t (by decide) ?_ | refine iteB_f (by decide) ?_ | (refine Duo.mk (by first | omega | exact rfl | decide) ?_; intros) | (refine Duo.mk (Clo.mk (by kernel_rfl)) ?_; intros)))
  refine callI_i (f := 121) (by kernel_rfl) (by kernel_rfl) (by kernel_rfl) ?_
  have ST : Sat H (tr g0 1 sr sr T :: pt tp (treO (T.ref sr) (T.inL.length : Nat) sr) :: pt sr senO :: pt v (.cells ⟨[.iface 181 (.string b), .iface 181 (.string e)]⟩ 141) :: pt z (grO km tp wm im) :: has g :: sets f ZR :: l) := by
    refine S.to ?_
    iterate 7 (apply Ent.pick; (focus (repeat (first | exact Sel.here | apply Sel.there))))
    exact Ent.refl
  refine gives_i S (Find_ok (i := .mk 181 (.string b)) (j := .mk 181 (.string e)) (affG b) (affG e) (trH_of ST) (tp := tp) (n := (T.inL.length : Nat)) ⟨ST.at_ (by simp)⟩ ⟨ST.at_ (by simp)⟩ (g0_sub H)) fun H1 E1 S1 => ?_
  clear ST S
  cases hfd : findT 1 (b, 0) (e, 0) T with
  | node it c tl tu =>
    obtain ⟨hit, o, A, B, hv, rfl⟩ := hI.some hfd
    dsimp only
    have ST1 : Sat H1 (tr g0 1 sr sr T :: pt tp (treO (T.ref sr) (T.inL.length : Nat) sr) :: pt sr senO :: pt v (.cells ⟨[.iface 181 (.string b), .iface 181 (.string e)]⟩ 141) :: pt z (grO km tp wm im) :: has g :: sets f (A ++ ((b, e), o) :: B) :: l) := by
      refine S1.to ?_
      iterate 7 (apply Ent.pick; (focus (repeat (first | exact Sel.here | apply Sel.there))))
      exact Ent.refl
    obtain ⟨m, x1, x2, x3, x4, B1⟩ := trH_node T sr (trH_of ST1) hit
    clear ST1
    unfold ndO at B1
    rw [hv] at B1
    (repeat (first | (refine Step.go ?_; intros) | refine iteB_t (by decide) ?_ | refine iteB_f (by decide) ?_ | (refine Duo.mk (by first | omega | exact rfl | decide) ?_; intros) | (refine Duo.mk (Clo.mk (by kernel_rfl)) ?_; intros)))
    refine iteB_t rfl ?_
    (repeat (first | (refine Step.go ?_; intros) | refine iteB_t (by decide) ?_ | refine iteB_f (by decide) ?_ | (refine Duo.mk (by first | omega | exact rfl | decide) ?_; intros) | (refine Duo.mk (Clo.mk (by kernel_rfl)) ?_; intros)))
    have S2 : Sat H1 (sets f (A ++ ((b, e), o) :: B) :: has g :: pt z (grO km tp wm im) :: trPs sr tp T l) := by
      refine S1.to ?_
      iterate 6 (apply Ent.pick; (focus (repeat (first | exact Sel.here | apply Sel.there))))
      exact Ent.drop Ent.refl
    clear S1
    have S3 : Sat H1 (mp ptrK unitF o (unitL (f (b, e))) :: has g :: sets f (A ++ B) :: pt z (grO km tp wm im) :: trPs sr tp T l) := by
      refine (S2.to sets_out).to ?_
      iterate 7 (apply Ent.pick; (focus (repeat (first | exact Sel.here | apply Sel.there))))
      exact Ent.refl
    clear S2
    refine callD_i (setPut_ok hr hf hn S3) ?_
    rintro _ H3 ⟨rfl, S4⟩
    clear S3
    (repeat (first | (refine Step.go ?_; intros) | refine iteB_t (by decide) ?_ | refine iteB_f (by decide) ?_ | (refine Duo.mk (by first | omega | exact rfl | decide) ?_; intros) | (refine Duo.mk (Clo.mk (by kernel_rfl)) ?_; intros)))
    refine fin H3 T _ hI (fun c => ⟨.inr, ?_⟩) ?_
    · rintro (rfl | h)
      · simp
      · exact h
    · have e1 : sets f (A ++ B) = sets (more f (b, e) r) (A ++ B) := sets_congr fun y hy => (more_not (mid_nodup hI.nd y hy)).symm
      rw [e1, ← more_at (f := f) (k := (b, e)) (r := r)] at S4
      have S5 : Sat H3 (mp ptrK unitF o (unitL (more f (b, e) r (b, e))) :: sets (more f (b, e) r) (A ++ B) :: pt z (grO km tp wm im) :: has g :: trPs sr tp T l) := by
        refine S4.to ?_
        iterate 7 (apply Ent.pick; (focus (repeat (first | exact Sel.here | apply Sel.there))))
        exact Ent.refl
      refine (S5.to sets_in).to ?_
      iterate 6 (apply Ent.pick; (focus (repeat (first | exact Sel.here | apply Sel.there))))
      exact Ent.refl
  | nil =>
    have hk := hI.none hfd
    have hf0 := h0 hk
    dsimp only
    (repeat (first | (refine Step.go ?_; intros) | refine iteB_t (by decide) ?_ | refine iteB_f (by decide) ?_ | (refine Duo.mk (by first | omega | exact rfl | decide) ?_; intros) | (refine Duo.mk (Clo.mk (by kernel_rfl)) ?_; intros)))
    rename_i o H2 S2
    clear S1
    have S3 := S2.mpNew ptrK unitF
    have S4 : Sat H2 (mp ptrK unitF o (unitL []) :: has g :: pt v (.cells ⟨[.iface 181 (.string b), .iface 181 (.string e)]⟩ 141) :: pt z (grO km tp wm im) :: sets f ZR :: trPs sr tp T l) := by
      refine S3.to ?_
      iterate 8 (apply Ent.pick; (focus (repeat (first | exact Sel.here | apply Sel.there))))
      exact Ent.refl
    clear S2 S3
    refine callD_i (setPut_ok (L := []) hr (fun y hy => by cases hy) (by simp) S4) ?_
    rintro _ H4 ⟨rfl, S5⟩
    clear S4
    (repeat (first | (refine Step.go ?_; intros) | refine iteB_t (by decide) ?_ | refine iteB_f (by decide) ?_ | (refine Duo.mk (by first | omega | exact rfl | decide) ?_; intros) | (refine Duo.mk (Clo.mk (by kernel_rfl)) ?_; intros)))
    refine callI_i (f := 123) (by kernel_rfl) (by kernel_rfl) (by kernel_rfl) ?_
    have S6 : Sat H4 (tr g0 1 sr sr T :: pt tp (treO (T.ref sr) (T.inL.length : Nat) sr) :: pt sr senO :: has g0 :: mp ptrK unitF o (unitL ([] ++ [r])) :: has g :: pt z (grO km tp wm im) :: sets f ZR :: l) := by
      refine (has_nothing S5).to ?_
      iterate 8 (apply Ent.pick; (focus (repeat (first | exact Sel.here | apply Sel.there))))
      exact Ent.drop Ent.refl
    clear S5
    have hlen := hI.len
    refine callD_i (insert_ok (i := .mk 181 (.string b)) (j := .mk 181 (.string e)) (v := mIV o) (affG b) (affG e) hI.rb (by omega) S6) ?_
    rintro _ H5 ⟨rfl, rn, S7⟩
    clear S6
    (repeat (first | (refine Step.go ?_; intros) | refine iteB_t (by decide) ?_ | refine iteB_f (by decide) ?_ | (refine Duo.mk (by first | omega | exact rfl | decide) ?_; intros) | (refine Duo.mk (Clo.mk (by kernel_rfl)) ?_; intros)))
    have hI2 := hI.insert (r := rn) (o := o) (i := .mk 181 (.string b)) (j := .mk 181 (.string e)) hp hk
    have hlen2 := hI2.len
    generalize ins 1 ⟨rn, .mk 181 (.string b), .mk 181 (.string e), mIV o, (b, 0), (e, 0)⟩ T = T' at S7 hI2 hlen2
    refine fin H5 T' _ hI2 (fun c => ?_) ?_
    · simp only [List.map_append, List.map_cons, List.map_nil, List.mem_append, List.mem_singleton]
      exact Or.comm
    · have hle : ((T.inL.length : Nat) : Int) + 1 = ((T'.inL.length : Nat) : Int) := by
        rw [hlen2, hlen, List.length_append]; simp
      rw [hle] at S7
      have e1 : sets f ZR = sets (more f (b, e) r) ZR := sets_congr fun y hy => (more_not (fun e => hk (List.mem_map.2 ⟨y, hy, e⟩))).symm
      have e2 : more f (b, e) r (b, e) = [] ++ [r] := by rw [more_at, hf0]
      rw [e1, ← e2] at S7
      have S8 : Sat H5 (mp ptrK unitF o (unitL (more f (b, e) r (b, e))) :: sets (more f (b, e) r) ZR :: pt z (grO km tp wm im) :: has g :: trPs sr tp T' l) := by
        refine S7.to ?_
        iterate 7 (apply Ent.pick; (focus (repeat (first | exact Sel.here | apply Sel.there))))
        exact Ent.drop Ent.refl
      refine (S8.to sets_snoc).to ?_
      iterate 6 (apply Ent.pick; (focus (repeat (first | exact Sel.here | apply Sel.there))))
      exact Ent.refl
end
end Go.Proofs.YtobolifgehagfaaGreat

set_option linter.unusedVariables false
set_option linter.unusedSimpArgs false
set_option linter.unnecessarySimpa false
namespace Go.Proofs.YtobolifgehagfaaGreat
open Go Go.Den Go.Proofs
theorem nodup_le {α : Type} [DecidableEq α] : ∀ {a b : List α}, a.Nodup → (∀ x ∈ a, x ∈ b) → a.length ≤ b.length
  | [], _, _, _ => by simp
  | x :: a, b, hn, hs => by
    rw [List.nodup_cons] at hn
    have hx := hs x (List.mem_cons_self ..)
    have h1 := nodup_le (a := a) (b := b.erase x) hn.2 (fun y hy => (List.mem_erase_of_ne (fun e : y = x => hn.1 (e ▸ hy))).2 (hs y (List.mem_cons_of_mem _ hy)))
    rw [List.length_erase_of_mem hx] at h1
    have : 0 < b.length := List.length_pos_of_mem hx
    simp only [List.length_cons]; omega
abbrev WL := List (Wa × Nat)
def memK (ws : WL) (k : ByteArray) : List Nat := (ws.filter fun p => !p.1.he && decide (p.1.key = k)).map (·.2)
def memR (ws : WL) (c : RK2) : List Nat := (ws.filter fun p => p.1.he && decide ((p.1.key, p.1.e) = c)).map (·.2)
theorem memK_snoc {ws : WL} {x : Wa} {r : Nat} (h : x.he = false) : memK (ws ++ [(x, r)]) = more (memK ws) x.key r := by
  funext k
  unfold memK more
  rw [List.filter_append, List.map_append]
  by_cases hk : k = x.key
  · rw [if_pos hk]
    simp [h, hk]
  · rw [if_neg hk]
    simp [h, Ne.symm hk]
theorem memK_same {ws : WL} {x : Wa} {r : Nat} (h : x.he = true) : memK (ws ++ [(x, r)]) = memK ws := by
  funext k
  unfold memK
  rw [List.filter_append, List.map_append]
  simp [h]
theorem memR_snoc {ws : WL} {x : Wa} {r : Nat} (h : x.he = true) : memR (ws ++ [(x, r)]) = more (memR ws) (x.key, x.e) r := by
  funext k
  unfold memR more
  rw [List.filter_append, List.map_append]
  by_cases hk : k = (x.key, x.e)
  · rw [if_pos hk]
    simp [h, hk]
  · rw [if_neg hk]
    have hk' : ¬ (x.key, x.e) = k := Ne.symm hk
    simp [h, hk']
theorem memR_same {ws : WL} {x : Wa} {r : Nat} (h : x.he = false) : memR (ws ++ [(x, r)]) = memR ws := by
  funext k
  unfold memR
  rw [List.filter_append, List.map_append]
  simp [h]
theorem memK_sub {ws : WL} {k : ByteArray} {r : Nat} (h : r ∈ memK ws k) : r ∈ ws.map (·.2) := by
  unfold memK at h
  obtain ⟨p, hp, rfl⟩ := List.mem_map.1 h
  exact List.mem_map_of_mem (List.mem_filter.1 hp).1
theorem memR_sub {ws : WL} {c : RK2} {r : Nat} (h : r ∈ memR ws c) : r ∈ ws.map (·.2) := by
  unfold memR at h
  obtain ⟨p, hp, rfl⟩ := List.mem_map.1 h
  exact List.mem_map_of_mem (List.mem_filter.1 hp).1
structure GrpI (g : PH) (ws : WL) (ZK : List (ByteArray × Nat)) (ZR : List (RK2 × Nat)) (T : Tr) : Prop where
  wa : ∀ p ∈ ws, WaG g p.1 p.2
  ids : (ws.map (·.1.id)).Nodup
  rs : (ws.map (·.2)).Nodup
  kn : (ZK.map (·.1)).Nodup
  kw : ∀ k, k ∈ ZK.map (·.1) ↔ ∃ p ∈ ws, p.1.he = false ∧ p.1.key = k
  ri : RgI T ZR
  rk : ∀ c, c ∈ ZR.map (·.1) ↔ ∃ p ∈ ws, p.1.he = true ∧ (p.1.key, p.1.e) = c
theorem GrpI.plain {g : PH} {ws : WL} {ZK : List (ByteArray × Nat)} {ZR : List (RK2 × Nat)} {T : Tr} (h : GrpI g ws ZK ZR T) : ∀ r ∈ ws.map (·.2), plainG g r := by
  intro r hr
  obtain ⟨p, hp, rfl⟩ := List.mem_map.1 hr
  exact (h.wa p hp).plain
theorem GrpI.mono {g g' : PH} {ws : WL} {ZK : List (ByteArray × Nat)} {ZR : List (RK2 × Nat)} {T : Tr} (h : GrpI g ws ZK ZR T) (hs : PH.sub g g') : GrpI g' ws ZK ZR T :=
  ⟨fun p hp => (h.wa p hp).mono hs, h.ids, h.rs, h.kn, h.kw, h.ri, h.rk⟩
theorem GrpI.memK0 {g : PH} {ws : WL} {ZK : List (ByteArray × Nat)} {ZR : List (RK2 × Nat)} {T : Tr} (h : GrpI g ws ZK ZR T) {k : ByteArray} (hk : k ∉ ZK.map (·.1)) : memK ws k = [] := by
  cases e : memK ws k with
  | nil => rfl
  | cons r t =>
    exfalso
    have h1 : r ∈ memK ws k := by rw [e]; simp
    unfold memK at h1
    obtain ⟨p, hp, _⟩ := List.mem_map.1 h1
    obtain ⟨h2, h3⟩ := List.mem_filter.1 hp
    simp only [Bool.and_eq_true, Bool.not_eq_true', decide_eq_true_eq] at h3
    exact hk ((h.kw k).2 ⟨p, h2, h3⟩)
theorem GrpI.memR0 {g : PH} {ws : WL} {ZK : List (ByteArray × Nat)} {ZR : List (RK2 × Nat)} {T : Tr} (h : GrpI g ws ZK ZR T) {c : RK2} (hk : c ∉ ZR.map (·.1)) : memR ws c = [] := by
  cases e : memR ws c with
  | nil => rfl
  | cons r t =>
    exfalso
    have h1 : r ∈ memR ws c := by rw [e]; simp
    unfold memR at h1
    obtain ⟨p, hp, _⟩ := List.mem_map.1 h1
    obtain ⟨h2, h3⟩ := List.mem_filter.1 hp
    simp only [Bool.and_eq_true, decide_eq_true_eq] at h3
    exact hk ((h.rk c).2 ⟨p, h2, h3⟩)
theorem GrpI.zlen {g : PH} {ws : WL} {ZK : List (ByteArray × Nat)} {ZR : List (RK2 × Nat)} {T : Tr} (h : GrpI g ws ZK ZR T) : ZR.length ≤ ws.length := by
  have h1 := nodup_le (a := ZR.map (·.1)) (b := ws.map fun p => (p.1.key, p.1.e)) h.ri.nd (fun c hc => by
    obtain ⟨p, hp, _, e⟩ := (h.rk c).1 hc
    exact List.mem_map.2 ⟨p, hp, e⟩)
  simpa using h1
abbrev grpM (g : PH) (z km tp wm im sr : Nat) (ws : WL) (ZK : List (ByteArray × Nat)) (ZR : List (RK2 × Nat)) (T : Tr) (M : List (Int × Nat)) (l : List HP) : List HP :=
  pt z (grO km tp wm im) :: has g :: mp Value.string mpI km ZK :: sets (memK ws) ZK :: sets (memR ws) ZR :: mp ptrK unitF wm (unitL (ws.map (·.2))) :: mp (Value.int .i64) ptrK im M :: trPs sr tp T l
section
variable {H H0 : Heap} {l : List HP} {g : PH} {z km tp wm im sr r : Nat} {ws : WL} {ZK : List (ByteArray × Nat)} {ZR : List (RK2 × Nat)} {T : Tr} {M : List (Int × Nat)} {x : Wa}
theorem unitL_snoc : unitL (ws.map (·.2) ++ [r]) = unitL ((ws ++ [(x, r)]).map (·.2)) := by simp
theorem GrpI.rowK (h : GrpI g ws ZK ZR T) (hw : WaG g x r) (hi : x.id ∉ ws.map (·.1.id)) (hn : r ∉ ws.map (·.2)) : (∀ p ∈ ws ++ [(x, r)], WaG g p.1 p.2) ∧ ((ws ++ [(x, r)]).map (·.1.id)).Nodup ∧ ((ws ++ [(x, r)]).map (·.2)).Nodup := by
  refine ⟨fun p hp => ?_, ?_, ?_⟩
  · rcases List.mem_append.1 hp with hp | hp
    · exact h.wa p hp
    · simp only [List.mem_singleton] at hp
      subst hp; exact hw
  · rw [List.map_append, List.nodup_append]
    refine ⟨h.ids, by simp, ?_⟩
    intro a ha b hb e
    simp only [List.map_cons, List.map_nil, List.mem_singleton] at hb
    rw [hb] at e; rw [e] at ha
    exact hi ha
  · rw [List.map_append, List.nodup_append]
    refine ⟨h.rs, by simp, ?_⟩
    intro a ha b hb e
    simp only [List.map_cons, List.map_nil, List.mem_singleton] at hb
    rw [hb] at e; rw [e] at ha
    exact hn ha
theorem groupAdd_ok (hG : GrpI g ws ZK ZR T) (hw : WaG g x r) (hi : x.id ∉ ws.map (·.1.id)) (hn : r ∉ ws.map (·.2)) (hp : x.he = true → ltE 1 (x.key, 0) (x.e, 0) = true) (hl : ws.length ≤ 100000)
    (S : Sat H (grpM g z km tp wm im sr ws ZK ZR T M l)) :
    CallsH Tryz.prog 53 ⟨[pA z, pA r]⟩ H (fun e H1 => e = .returned (.tuple ⟨[]⟩) ∧ ∃ ZK' ZR' T', GrpI g (ws ++ [(x, r)]) ZK' ZR' T' ∧ Sat H1 (grpM g z km tp wm im sr (ws ++ [(x, r)]) ZK' ZR' T' M l)) := by
  obtain ⟨n1, n2, n3⟩ := hG.rowK hw hi hn
  have hpl := hG.plain
  have hw0 := hw
  obtain ⟨kb, kc, ep, en, ec, ch, w1, ⟨kr, kf, w2⟩, w3⟩ := hw
  refine F53.calls ?_
  unfold F53.go
  (repeat (first | (refine Step.go ?_; intros) | refine iteB_t (by decide) ?_ | refine iteB_f (by decide) ?_ | (refine Duo.mk (by first | omega | exact rfl | decide) ?_; intros) | (refine Duo.mk (Clo.mk (by kernel_rfl)) ?_; intros)))
  have S1 : Sat H (mp ptrK unitF wm (unitL (ws.map (·.2))) :: has g :: pt z (grO km tp wm im) :: mp Value.string mpI km ZK :: sets (memK ws) ZK :: sets (memR ws) ZR :: mp (Value.int .i64) ptrK im M :: trPs sr tp T l) := by
    refine S.to ?_
    iterate 10 (apply Ent.pick; (focus (repeat (first | exact Sel.here | apply Sel.there))))
    exact Ent.refl
  clear S
  refine callD_i (setPut_ok hw0.plain hpl hn S1) ?_
  rintro _ H2 ⟨rfl, S2⟩
  clear S1
  rw [unitL_snoc (x := x)] at S2
  have hs : PH.sub g (PH.of H2) := HasG.sub (l := mp ptrK unitF wm (unitL ((ws ++ [(x, r)]).map (·.2))) :: has g :: pt z (grO km tp wm im) :: mp Value.string mpI km ZK :: sets (memK ws) ZK :: sets (memR ws) ZR :: mp (Value.int .i64) ptrK im M :: trPs sr tp T l) inferInstance S2
  have B1 : Blc H2 r _ := ⟨hs _ _ w1⟩
  unfold EndG at w3
  cases hx : x.he with
  | false =>
    rw [hx, if_neg (by simp)] at w3
    subst w3
    (repeat (first | (refine Step.go ?_; intros) | refine iteB_t (by decide) ?_ | refine iteB_f (by decide) ?_ | (refine Duo.mk (by first | omega | exact rfl | decide) ?_; intros) | (refine Duo.mk (Clo.mk (by kernel_rfl)) ?_; intros)))
    have S3 : Sat H2 (mp Value.string mpI km ZK :: sets (memK ws) ZK :: has g :: pt z (grO km tp wm im) :: sets (memR ws) ZR :: mp ptrK unitF wm (unitL ((ws ++ [(x, r)]).map (·.2))) :: mp (Value.int .i64) ptrK im M :: trPs sr tp T l) := by
      refine S2.to ?_
      iterate 10 (apply Ent.pick; (focus (repeat (first | exact Sel.here | apply Sel.there))))
      exact Ent.refl
    clear S2
    refine callD_i (keyPut_ok hw0 (fun y hy => hpl y (memK_sub hy)) (fun h => hn (memK_sub h)) hG.kn (fun h => hG.memK0 h) S3) ?_
    rintro _ H3 ⟨rfl, ZK', k1, k2, S4⟩
    clear S3
    (repeat (first | (refine Step.go ?_; intros) | refine iteB_t (by decide) ?_ | refine iteB_f (by decide) ?_ | (refine Duo.mk (by first | omega | exact rfl | decide) ?_; intros) | (refine Duo.mk (Clo.mk (by kernel_rfl)) ?_; intros)))
    refine ⟨rfl, ZK', ZR, T, ⟨n1, n2, n3, k1, fun k => ?_, hG.ri, fun c => ?_⟩, ?_⟩
    · rw [k2, hG.kw]
      constructor
      · rintro (rfl | ⟨p, hp, h1⟩)
        · exact ⟨(x, r), by simp, hx, rfl⟩
        · exact ⟨p, by simp [hp], h1⟩
      · rintro ⟨p, hp, h1, h2⟩
        rcases List.mem_append.1 hp with hp | hp
        · exact .inr ⟨p, hp, h1, h2⟩
        · simp only [List.mem_singleton] at hp
          subst hp; exact .inl h2.symm
    · rw [hG.rk]
      constructor
      · rintro ⟨p, hp, h1⟩
        exact ⟨p, by simp [hp], h1⟩
      · rintro ⟨p, hp, h1, h2⟩
        rcases List.mem_append.1 hp with hp | hp
        · exact ⟨p, hp, h1, h2⟩
        · simp only [List.mem_singleton] at hp
          subst hp; rw [hx] at h1; cases h1
    · unfold grpM
      rw [memK_snoc hx, memR_same hx]
      refine S4.to ?_
      iterate 10 (apply Ent.pick; (focus (repeat (first | exact Sel.here | apply Sel.there))))
      exact Ent.refl
  | true =>
    rw [hx, if_pos rfl] at w3
    obtain ⟨eb, rfl, rfl, er, ef, w3⟩ := w3
    (repeat (first | (refine Step.go ?_; intros) | refine iteB_t (by decide) ?_ | refine iteB_f (by decide) ?_ | (refine Duo.mk (by first | omega | exact rfl | decide) ?_; intros) | (refine Duo.mk (Clo.mk (by kernel_rfl)) ?_; intros)))
    have fin : ∀ (v : Nat) (H3 : Heap), Sat H3 (pt v (.cells ⟨[.iface 181 (.string x.key), .iface 181 (.string x.e)]⟩ 141) :: mp ptrK unitF wm (unitL ((ws ++ [(x, r)]).map (·.2))) :: has g :: pt z (grO km tp wm im) :: mp Value.string mpI km ZK :: sets (memK ws) ZK :: sets (memR ws) ZR :: mp (Value.int .i64) ptrK im M :: trPs sr tp T l) →
        F53.L0 (some (aA z)) (some (aA r)) v H3 (fun e H1 => e = .returned (.tuple ⟨[]⟩) ∧ ∃ ZK' ZR' T', GrpI g (ws ++ [(x, r)]) ZK' ZR' T' ∧ Sat H1 (grpM g z km tp wm im sr (ws ++ [(x, r)]) ZK' ZR' T' M l)) := by
      intro v H3 S3
      refine rangePut_ok (f := memR ws) (ZR := ZR) (b := x.key) (e := x.e) (T := T) (km := km) (tp := tp) (wm := wm) (im := im) (sr := sr) (g := g) (l := mp Value.string mpI km ZK :: sets (memK ws) ZK :: mp ptrK unitF wm (unitL ((ws ++ [(x, r)]).map (·.2))) :: mp (Value.int .i64) ptrK im M :: l) hw0.plain (fun y hy => hpl y (memR_sub hy)) (fun h => hn (memR_sub h)) (fun h => hG.memR0 h) hG.ri (hp hx) (by have := hG.zlen; omega) (S3.to ?_) ?_
      · iterate 11 (apply Ent.pick; (focus (repeat (first | exact Sel.here | apply Sel.there))))
        exact Ent.refl
      · intro H4 T' ZR' r1 r2 S4
        refine ⟨rfl, ZK, ZR', T', ⟨n1, n2, n3, hG.kn, fun k => ?_, r1, fun c => ?_⟩, ?_⟩
        · rw [hG.kw]
          constructor
          · rintro ⟨p, hp, h1⟩
            exact ⟨p, by simp [hp], h1⟩
          · rintro ⟨p, hp, h1, h2⟩
            rcases List.mem_append.1 hp with hp | hp
            · exact ⟨p, hp, h1, h2⟩
            · simp only [List.mem_singleton] at hp
              subst hp; rw [hx] at h1; cases h1
        · rw [r2, hG.rk]
          constructor
          · rintro (rfl | ⟨p, hp, h1⟩)
            · exact ⟨(x, r), by simp, hx, rfl⟩
            · exact ⟨p, by simp [hp], h1⟩
          · rintro ⟨p, hp, h1, h2⟩
            rcases List.mem_append.1 hp with hp | hp
            · exact .inr ⟨p, hp, h1, h2⟩
            · simp only [List.mem_singleton] at hp
              subst hp; exact .inl h2.symm
        · unfold grpM
          rw [memK_same hx, memR_snoc hx]
          refine S4.to ?_
          iterate 10 (apply Ent.pick; (focus (repeat (first | exact Sel.here | apply Sel.there))))
          exact Ent.refl
    refine iteB_f rfl ?_
    refine ⟨?_, ?_⟩
    · (repeat (first | (refine Step.go ?_; intros) | refine iteB_t (by decide) ?_ | refine iteB_f (by decide) ?_ | (refine Duo.mk (by first | omega | exact rfl | decide) ?_; intros) | (refine Duo.mk (Clo.mk (by kernel_rfl)) ?_; intros)))
      refine bs_i (hs _ _ w2) ?_
      (repeat (first | (refine Step.go ?_; intros) | refine iteB_t (by decide) ?_ | refine iteB_f (by decide) ?_ | (refine Duo.mk (by first | omega | exact rfl | decide) ?_; intros) | (refine Duo.mk (Clo.mk (by kernel_rfl)) ?_; intros)))
      refine bs_i (hs _ _ w3) ?_
      (repeat (first | (refine Step.go ?_; intros) | refine iteB_t (by decide) ?_ | refine iteB_f (by decide) ?_ | (refine Duo.mk (by first | omega | exact rfl | decide) ?_; intros) | (refine Duo.mk (Clo.mk (by kernel_rfl)) ?_; intros)))
      rename_i v H3 S3
      refine gives_i S3 (mkAff _ _) fun H4 E4 S4 => ?_
      clear S2 S3
      (repeat (first | (refine Step.go ?_; intros) | refine iteB_t (by decide) ?_ | refine iteB_f (by decide) ?_ | (refine Duo.mk (by first | omega | exact rfl | decide) ?_; intros) | (refine Duo.mk (Clo.mk (by kernel_rfl)) ?_; intros)))
      exact fin _ _ ‹_›
    · (repeat (first | (refine Step.go ?_; intros) | refine iteB_t (by decide) ?_ | refine iteB_f (by decide) ?_ | (refine Duo.mk (by first | omega | exact rfl | decide) ?_; intros) | (refine Duo.mk (Clo.mk (by kernel_rfl)) ?_; intros)))
      refine bs_i (hs _ _ w2) ?_
      (repeat (first | (refine Step.go ?_; intros) | refine iteB_t (by decide) ?_ | refine iteB_f (by decide) ?_ | (refine Duo.mk (by first | omega | exact rfl | decide) ?_; intros) | (refine Duo.mk (Clo.mk (by kernel_rfl)) ?_; intros)))
      refine bs_i (hs _ _ w3) ?_
      (repeat (first | (refine Step.go ?_; intros) | refine iteB_t (by decide) ?_ | refine iteB_f (by decide) ?_ | (refine Duo.mk (by first | omega | exact rfl | decide) ?_; intros) | (refine Duo.mk (Clo.mk (by kernel_rfl)) ?_; intros)))
      refine gives_i S2 (mkAff _ _) fun H4 E4 S4 => ?_
      clear S2
      (repeat (first | (refine Step.go ?_; intros) | refine iteB_t (by decide) ?_ | refine iteB_f (by decide) ?_ | (refine Duo.mk (by first | omega | exact rfl | decide) ?_; intros) | (refine Duo.mk (Clo.mk (by kernel_rfl)) ?_; intros)))
      exact fin _ _ ‹_›
end
end Go.Proofs.YtobolifgehagfaaGreat

set_option linter.unusedVariables false
set_option linter.unusedSimpArgs false
set_option linter.unnecessarySimpa false
namespace Go.Proofs.YtobolifgehagfaaGreat
open Go Go.Den Go.Proofs
section
variable {H H0 : Heap} {l : List HP} {g : PH} {z km tp wm im sr r : Nat} {ws : WL} {ZK : List (ByteArray × Nat)} {ZR : List (RK2 × Nat)} {T : Tr} {M : List (Int × Nat)} {x : Wa}
abbrev idM (ws : WL) : List (Int × Nat) := ws.map fun p => (p.1.id, p.2)
theorem zzAdd2_ok {kb kc : Nat} {ep : Option Addr} {en ec : Nat} (hG : GrpI g ws ZK ZR T) (hk : BytG g kb x.key) (he : EndG g x ep en) (hi : x.id ∉ ws.map (·.1.id)) (hp : x.he = true → ltE 1 (x.key, 0) (x.e, 0) = true) (hl : ws.length ≤ 100000)
    (S : Sat H (grpM g z km tp wm im sr ws ZK ZR T (idM ws) l)) :
    CallsH Tryz.prog 38 ⟨[pA z, .int .i64 x.id, .slice (some (aA kb)) x.key.size kc, .slice ep en ec, .int .i64 x.m]⟩ H (fun e H1 => e = .returned (.tuple ⟨[]⟩) ∧ ∃ r g' ZK' ZR' T', GrpI g' (ws ++ [(x, r)]) ZK' ZR' T' ∧ Sat H1 (grpM g' z km tp wm im sr (ws ++ [(x, r)]) ZK' ZR' T' (idM (ws ++ [(x, r)])) l)) := by
  refine F38.calls ?_
  unfold F38.go
  refine S.mkChan (t := 119) (el := 189) (d := .both) (ie := Tryz.t189) (by kernel_rfl) (by kernel_rfl) (by omega) (by omega) (by decide) fun ch H1 S1 => ?_
  clear S
  refine ⟨_, rfl, ?_⟩
  refine Step.go ?_
  intro r H2 S2
  clear S1
  have S3 : Sat H2 (pt r (wtO x kb kc ep en ec ch) :: has g :: pt z (grO km tp wm im) :: mp Value.string mpI km ZK :: sets (memK ws) ZK :: sets (memR ws) ZR :: mp ptrK unitF wm (unitL (ws.map (·.2))) :: mp (Value.int .i64) ptrK im (idM ws) :: trPs sr tp T l) := by
    refine S2.to ?_
    iterate 11 (apply Ent.pick; (focus (repeat (first | exact Sel.here | apply Sel.there))))
    exact Ent.drop Ent.refl
  clear S2
  have hn : r ∉ ws.map (·.2) := by
    intro h
    obtain ⟨p, hp, e⟩ := List.mem_map.1 h
    obtain ⟨_, _, _, _, _, _, w1, _⟩ := hG.wa p hp
    rw [e, sep_has S3] at w1
    cases w1
  obtain ⟨S4, s1, g1⟩ := has_put S3
  clear S3
  generalize put1 g r (wtO x kb kc ep en ec ch) = g' at S4 s1 g1
  have hw : WaG g' x r := ⟨kb, kc, ep, en, ec, ch, g1, hk.mono s1, he.mono s1⟩
  (repeat (first | (refine Step.go ?_; intros) | refine iteB_t (by decide) ?_ | refine iteB_f (by decide) ?_ | (refine Duo.mk (by first | omega | exact rfl | decide) ?_; intros) | (refine Duo.mk (Clo.mk (by kernel_rfl)) ?_; intros)))
  rename_i H5 S5
  have hm : mget (idM ws) x.id = none := by
    rw [wget_none]
    intro h
    apply hi
    simpa using h
  rw [mset_none hm] at S5
  have e : idM ws ++ [(x.id, r)] = idM (ws ++ [(x, r)]) := by simp
  rw [e] at S5
  refine callD_i (groupAdd_ok (g := g') (z := z) (km := km) (tp := tp) (wm := wm) (im := im) (sr := sr) (l := l) (M := idM (ws ++ [(x, r)])) (hG.mono s1) hw hi hn hp hl (S5.to ?_)) ?_
  · iterate 10 (apply Ent.pick; (focus (repeat (first | exact Sel.here | apply Sel.there))))
    exact Ent.refl
  rintro _ H6 ⟨rfl, ZK', ZR', T', hG', S6⟩
  (repeat (first | (refine Step.go ?_; intros) | refine iteB_t (by decide) ?_ | refine iteB_f (by decide) ?_ | (refine Duo.mk (by first | omega | exact rfl | decide) ?_; intros) | (refine Duo.mk (Clo.mk (by kernel_rfl)) ?_; intros)))
  exact ⟨rfl, r, g', ZK', ZR', T', hG', S6⟩
theorem has2_ok {id : Int} (S : Sat H (grpM g z km tp wm im sr ws ZK ZR T (idM ws) l)) : CallsH Tryz.prog 36 ⟨[pA z, .int .i64 id]⟩ H (fun e H1 => e = .returned (.bool (decide (id ∈ ws.map (·.1.id)))) ∧ H1 = H) := by
  refine F36.calls ?_
  unfold F36.go
  (iterate 2 (refine Step.go ?_; intros))
  refine Step.go ?_
  refine Duo.mk (fun v hv => ?_) (fun hv => ?_)
  · obtain ⟨A, B, h⟩ := wget_some hv
    have hm : id ∈ ws.map (·.1.id) := by
      have : (id, v) ∈ idM ws := by rw [h]; simp
      obtain ⟨p, hp, e⟩ := List.mem_map.1 this
      exact List.mem_map.2 ⟨p, hp, congrArg Prod.fst e⟩
    rw [decide_eq_true hm]
    (repeat (first | (refine Step.go ?_; intros) | refine iteB_t (by decide) ?_ | refine iteB_f (by decide) ?_ | (refine Duo.mk (by first | omega | exact rfl | decide) ?_; intros) | (refine Duo.mk (Clo.mk (by kernel_rfl)) ?_; intros)))
    exact ⟨rfl, rfl⟩
  · have hm : id ∉ ws.map (·.1.id) := by
      intro h
      apply wget_none.1 hv
      simpa using h
    rw [decide_eq_false hm]
    (repeat (first | (refine Step.go ?_; intros) | refine iteB_t (by decide) ?_ | refine iteB_f (by decide) ?_ | (refine Duo.mk (by first | omega | exact rfl | decide) ?_; intros) | (refine Duo.mk (Clo.mk (by kernel_rfl)) ?_; intros)))
    exact ⟨rfl, rfl⟩
theorem size2_ok (S : Sat H (grpM g z km tp wm im sr ws ZK ZR T M l)) : CallsH Tryz.prog 37 ⟨[pA z]⟩ H (fun e H1 => e = .returned (.int .i64 (ws.length : Nat)) ∧ H1 = H) := by
  refine F37.calls ?_
  unfold F37.go
  (repeat (first | (refine Step.go ?_; intros) | refine iteB_t (by decide) ?_ | refine iteB_f (by decide) ?_ | (refine Duo.mk (by first | omega | exact rfl | decide) ?_; intros) | (refine Duo.mk (Clo.mk (by kernel_rfl)) ?_; intros)))
  have h : CallsH Tryz.prog 52 ⟨[pA z]⟩ H (fun e H1 => e = .returned (.int .i64 (ws.length : Nat)) ∧ H1 = H) := by
    refine F52.calls ?_
    unfold F52.go
    (repeat (first | (refine Step.go ?_; intros) | refine iteB_t (by decide) ?_ | refine iteB_f (by decide) ?_ | (refine Duo.mk (by first | omega | exact rfl | decide) ?_; intros) | (refine Duo.mk (Clo.mk (by kernel_rfl)) ?_; intros)))
    obtain ⟨h, ⟨es, clk, hb, he, _, _⟩, hs⟩ := S.mem (c := mp ptrK unitF wm (unitL (ws.map (·.2)))) (by simp)
    refine mapLen (t := 94) rfl um (hs _ _ hb) ?_
    have he0 : es.size = ws.length := by
      have := congrArg List.length he
      simpa using this
    rw [he0]
    (repeat (first | (refine Step.go ?_; intros) | refine iteB_t (by decide) ?_ | refine iteB_f (by decide) ?_ | (refine Duo.mk (by first | omega | exact rfl | decide) ?_; intros) | (refine Duo.mk (Clo.mk (by kernel_rfl)) ?_; intros)))
    exact ⟨rfl, rfl⟩
  refine callD_i h ?_
  rintro _ H1 ⟨rfl, rfl⟩
  (repeat (first | (refine Step.go ?_; intros) | refine iteB_t (by decide) ?_ | refine iteB_f (by decide) ?_ | (refine Duo.mk (by first | omega | exact rfl | decide) ?_; intros) | (refine Duo.mk (Clo.mk (by kernel_rfl)) ?_; intros)))
  exact ⟨rfl, rfl⟩
theorem end2_ok (hz : x.e.size ≤ 140737488351232) : CallsH Tryz.prog 39 ⟨[.string x.e, .bool x.he]⟩ H (fun e H1 => ∃ ep en ec, e = .returned (.slice ep en ec) ∧ ExtH H H1 ∧ EndG (newOf H H1) x ep en) := by
  refine F39.calls ?_
  unfold F39.go
  have S := Sat.start H
  cases hx : x.he with
  | false =>
    refine iteB_t rfl ?_
    exact ⟨_, _, _, rfl, ExtH.refl _, by unfold EndG; rw [hx]; rfl⟩
  | true =>
    refine iteB_f rfl ?_
    refine Step.go ?_
    intro r H1 S1
    refine ⟨fun h => ?_, fun h => ⟨by decide, ?_, [], rfl, fun j v h => by simp at h, fun cap hcap => ?_⟩⟩
    · have h0 : x.e.size = 0 := by omega
      have hb : x.e.data.toList = [] := List.length_eq_zero_iff.1 h0
      rw [hb]
      show ∃ ep en ec, _ ∧ _ ∧ _
      refine ⟨some (aA r), 0 + x.e.size, 0, rfl, Sat.grown, ?_⟩
      unfold EndG
      rw [hx, if_pos rfl]
      refine ⟨r, rfl, by omega, [], (0, 0), ?_⟩
      rw [hb]
      exact newOf_at (freshS S1 (by (repeat (first | exact Sel.here | apply Sel.there))) (by (repeat (first | exact Sel.here | apply Sel.there)))) S1.obj
    · refine Nat.le_trans (Nat.mul_le_mul_right _ (nextcap_le (by omega))) ?_
      omega
    · refine ⟨some (aA H1.size), 0 + x.e.size, cap, rfl, (Sat.grown).trans (ExtH.push _ _), ?_⟩
      unfold EndG
      rw [hx, if_pos rfl]
      refine ⟨H1.size, rfl, by omega, repZ [Value.int .u8 0] (cap - (0 + x.e.size)), (0, 0), ?_⟩
      have hs : H.size ≤ H1.size := (Sat.grown (H0 := H) (H := H1)).size
      refine newOf_at hs ?_
      simp
end
end Go.Proofs.YtobolifgehagfaaGreat

set_option linter.unusedVariables false
set_option linter.unusedSimpArgs false
set_option linter.unnecessarySimpa false
namespace Go.Proofs.YtobolifgehagfaaGreat
open Go Go.Den Go.Proofs
theorem newOf_up {H H1 H2 : Heap} (h : ExtH H H1) : PH.sub (newOf H1 H2) (newOf H H2) := by
  intro b o e
  unfold newOf at e ⊢
  split at e
  · rename_i hb
    rw [if_pos (Nat.le_trans h.size hb)]
    exact e
  · cases e
theorem newOf_on {H H1 H2 : Heap} (h : ExtH H1 H2) : PH.sub (newOf H H1) (newOf H H2) := by
  intro b o e
  unfold newOf at e ⊢
  split at e
  · rename_i hb
    rw [if_pos hb]
    exact h.block_some e
  · cases e
abbrev addC (x : Wa) : List Value := [.int .i64 1, .int .i64 x.id, .string x.key, .string x.e, .bool x.he, .int .i64 x.m, .string (ByteArray.mk #[]), .int .i64 0, .int .i64 0, .slice none 0 0]
structure WaOk (x : Wa) : Prop where
  key : x.key.size ≤ 140737488351232
  e : x.e.size ≤ 140737488351232
  pos : x.he = true → x.key.size ≠ 0
  lt : x.he = true → x.e.size ≠ 0 → ltS x.key x.e = true
theorem WaOk.rng {x : Wa} (h : WaOk x) (hx : x.he = true) : ltE 1 (x.key, 0) (x.e, 0) = true := by
  have h1 := h.pos hx
  unfold ltE
  dsimp only
  rw [if_neg (by decide)]
  by_cases he : x.e.size = 0
  · rw [if_pos ⟨by decide, by simp [h1, he]⟩]
    simp [he]
  · rw [if_neg (by simp [h1, he])]
    exact h.lt hx he
def addW (L : List Wa) (x : Wa) : List Wa := if x.id ∈ L.map (·.id) then L else L ++ [x]
abbrev okV (b : Bool) : Value := .agg ⟨[.bool b, .int .i64 0, .slice none 0 0, .slice none 0 0]⟩
section
variable {H H0 : Heap} {l : List HP} {g : PH} {z km tp wm im sr r : Nat} {ws : WL} {ZK : List (ByteArray × Nat)} {ZR : List (RK2 × Nat)} {T : Tr} {x : Wa}
def After (z km tp wm im sr : Nat) (L : List Wa) (l : List HP) (H : Heap) : Prop := ∃ g ws ZK ZR T, ws.map (·.1) = L ∧ GrpI g ws ZK ZR T ∧ Sat H (grpM g z km tp wm im sr ws ZK ZR T (idM ws) l)
theorem opAdd2_ok (hG : GrpI g ws ZK ZR T) (hx : WaOk x) (hl : ws.length < 500) (S : Sat H (grpM g z km tp wm im sr ws ZK ZR T (idM ws) l)) :
    CallsH Tryz.prog 24 ⟨[pA z, .agg ⟨addC x⟩]⟩ H (fun e H1 => (∃ b, e = .returned (okV b)) ∧ After z km tp wm im sr (addW (ws.map (·.1)) x) l H1) := by
  refine F24.calls ?_
  unfold F24.go
  (repeat (first | (refine Step.go ?_; intros) | refine iteB_t (by decide) ?_ | refine iteB_f (by decide) ?_ | (refine Duo.mk (by first | omega | exact rfl | decide) ?_; intros) | (refine Duo.mk (Clo.mk (by kernel_rfl)) ?_; intros)))
  rename_i r0 H1 S1 r1 H2 S2 r2 H3 S3 H4 S4 H5 S5 H6 S6 H7 S7
  have S8 : Sat H7 (grpM g z km tp wm im sr ws ZK ZR T (idM ws) (pt r0 (.cells ⟨addC x⟩ 30) :: pt r1 (.cells ⟨[.bool false, .int .i64 0, .slice none 0 0, .slice none 0 0]⟩ 55) :: pt r2 (.cells ⟨[.bool false, .int .i64 0, .slice none 0 0, .slice none 0 0]⟩ 55) :: l)) := by
    refine S7.to ?_
    iterate 13 (apply Ent.pick; (focus (repeat (first | exact Sel.here | apply Sel.there))))
    exact Ent.refl
  clear S S1 S2 S3 S4 S5 S6 S7
  refine callD_i (has2_ok (id := x.id) S8) ?_
  rintro _ H8 ⟨rfl, rfl⟩
  have hmem : x.id ∈ (ws.map (·.1)).map (·.id) ↔ x.id ∈ ws.map (·.1.id) := by
    rw [List.map_map]; exact Iff.rfl
  by_cases hi : x.id ∈ ws.map (·.1.id)
  · rw [decide_eq_true hi]
    (repeat (first | (refine Step.go ?_; intros) | refine iteB_t (by decide) ?_ | refine iteB_f (by decide) ?_ | (refine Duo.mk (by first | omega | exact rfl | decide) ?_; intros) | (refine Duo.mk (Clo.mk (by kernel_rfl)) ?_; intros)))
    have S9 := ‹Sat _ _›
    refine ⟨⟨_, rfl⟩, g, ws, ZK, ZR, T, ?_, hG, S9.to ?_⟩
    · unfold addW
      rw [if_pos (hmem.2 hi)]
    · iterate 10 (apply Ent.pick; (focus (repeat (first | exact Sel.here | apply Sel.there))))
      exact Ent.drop (Ent.drop (Ent.drop Ent.refl))
  rw [decide_eq_false hi]
  (repeat (first | (refine Step.go ?_; intros) | refine iteB_t (by decide) ?_ | refine iteB_f (by decide) ?_ | (refine Duo.mk (by first | omega | exact rfl | decide) ?_; intros) | (refine Duo.mk (Clo.mk (by kernel_rfl)) ?_; intros)))
  refine callD_i (size2_ok S8) ?_
  rintro _ H8 ⟨rfl, rfl⟩
  (repeat (first | (refine Step.go ?_; intros) | refine iteB_t (by decide) ?_ | refine iteB_f (by decide) ?_ | (refine Duo.mk (by first | omega | exact rfl | decide) ?_; intros) | (refine Duo.mk (Clo.mk (by kernel_rfl)) ?_; intros)))
  refine iteB_f (decide_eq_false (by omega)) ?_
  have l1 : F24.L1 (some (aA z)) r0 r1 r2 H8 (fun e H1 => (∃ b, e = .returned (okV b)) ∧ After z km tp wm im sr (addW (ws.map (·.1)) x) l H1) := by
    refine F24.L1_step ?_
    unfold F24.L1n
    have go1 : ∀ (kb kc : Nat) (ep : Option Addr) (en ec : Nat) (HA HB : Heap), ExtH H8 HA → BytG (newOf H8 HA) kb x.key → EndG (newOf H8 HA) x ep en →
        Sat HA (grpM (plus g H8 HA) z km tp wm im sr ws ZK ZR T (idM ws) (pt r0 (.cells ⟨addC x⟩ 30) :: pt r1 (.cells ⟨[.bool false, .int .i64 0, .slice none 0 0, .slice none 0 0]⟩ 55) :: pt r2 (.cells ⟨[.bool false, .int .i64 0, .slice none 0 0, .slice none 0 0]⟩ 55) :: l)) ∧ GrpI (plus g H8 HA) ws ZK ZR T ∧ BytG (plus g H8 HA) kb x.key ∧ EndG (plus g H8 HA) x ep en := by
      intro kb kc ep en ec HA HB E hk he
      have hs1 : PH.sub g (plus g H8 HA) := sub_plus_l
      have hs2 : PH.sub (newOf H8 HA) (plus g H8 HA) := sub_plus_r S8
      refine ⟨?_, hG.mono hs1, hk.mono hs2, he.mono hs2⟩
      have S9 : Sat H8 (has g :: pt z (grO km tp wm im) :: mp Value.string mpI km ZK :: sets (memK ws) ZK :: sets (memR ws) ZR :: mp ptrK unitF wm (unitL (ws.map (·.2))) :: mp (Value.int .i64) ptrK im (idM ws) :: trPs sr tp T (pt r0 (.cells ⟨addC x⟩ 30) :: pt r1 (.cells ⟨[.bool false, .int .i64 0, .slice none 0 0, .slice none 0 0]⟩ 55) :: pt r2 (.cells ⟨[.bool false, .int .i64 0, .slice none 0 0, .slice none 0 0]⟩ 55) :: l)) := by
        refine S8.to ?_
        iterate 13 (apply Ent.pick; (focus (repeat (first | exact Sel.here | apply Sel.there))))
        exact Ent.refl
      refine (plus_has S9 E).to ?_
      iterate 13 (apply Ent.pick; (focus (repeat (first | exact Sel.here | apply Sel.there))))
      exact Ent.refl
    have hks := hx.key
    refine ⟨?_, ?_⟩
    · (iterate 5 (refine Step.go ?_; intros))
      refine ⟨by omega, fun kc hkc => ?_⟩
      unfold newD
      have E1 : ExtH H8 (H8.push (.cells ⟨bytesOf x.key.data.toList ++ List.replicate (kc - x.key.size) (.int .u8 0)⟩ 5 (kc, kc + 1))) := ExtH.push _ _
      have hb : (H8.push (.cells ⟨bytesOf x.key.data.toList ++ List.replicate (kc - x.key.size) (.int .u8 0)⟩ 5 (kc, kc + 1)))[H8.size]? = some (.cells ⟨bytesOf x.key.data.toList ++ List.replicate (kc - x.key.size) (.int .u8 0)⟩ 5 (kc, kc + 1)) := by simp
      generalize H8.push (.cells ⟨bytesOf x.key.data.toList ++ List.replicate (kc - x.key.size) (.int .u8 0)⟩ 5 (kc, kc + 1)) = HA at E1 hb ⊢
      generalize hkb0 : H8.size = kb at hb ⊢
      refine callD_i (end2_ok hx.e) ?_
      rintro _ HB ⟨ep, en, ec, rfl, E2, hE⟩
      have E09 := E1.trans E2
      have hkb : BytG (newOf H8 HB) kb x.key := ⟨_, _, newOf_at (by omega) (E2.block_some hb)⟩
      have hE9 : EndG (newOf H8 HB) x ep en := hE.mono (newOf_up E1)
      refine ⟨_, _, _, rfl, E2, ?_⟩
      obtain ⟨S9, hG9, hk9, he9⟩ := go1 kb kc ep en ec HB H8 E09 hkb hE9
      refine callD_i (zzAdd2_ok hG9 hk9 he9 hi (fun h => hx.rng h) (by omega) S9) ?_
      rintro _ HC ⟨rfl, rn, g'', ZK', ZR', T', hG', SC⟩
      clear S8 S9
      (repeat (first | (refine Step.go ?_; intros) | refine iteB_t (by decide) ?_ | refine iteB_f (by decide) ?_ | (refine Duo.mk (by first | omega | exact rfl | decide) ?_; intros) | (refine Duo.mk (Clo.mk (by kernel_rfl)) ?_; intros)))
      have SE := ‹Sat _ _›
      refine ⟨⟨_, rfl⟩, g'', ws ++ [(x, rn)], ZK', ZR', T', ?_, hG', SE.to ?_⟩
      · unfold addW
        rw [if_neg (fun h => hi (hmem.1 h)), List.map_append]
        rfl
      · iterate 10 (apply Ent.pick; (focus (repeat (first | exact Sel.here | apply Sel.there))))
        exact Ent.drop (Ent.drop (Ent.drop Ent.refl))
    · (iterate 5 (refine Step.go ?_; intros))
      refine callD_i (end2_ok hx.e) ?_
      rintro _ HA ⟨ep, en, ec, rfl, E1, hE⟩
      refine ⟨_, _, _, rfl, E1, ?_⟩
      refine ⟨by omega, fun kc hkc => ?_⟩
      unfold newD
      have E2 : ExtH HA (HA.push (.cells ⟨bytesOf x.key.data.toList ++ List.replicate (kc - x.key.size) (.int .u8 0)⟩ 5 (kc, kc + 1))) := ExtH.push _ _
      have hb : (HA.push (.cells ⟨bytesOf x.key.data.toList ++ List.replicate (kc - x.key.size) (.int .u8 0)⟩ 5 (kc, kc + 1)))[HA.size]? = some (.cells ⟨bytesOf x.key.data.toList ++ List.replicate (kc - x.key.size) (.int .u8 0)⟩ 5 (kc, kc + 1)) := by simp
      generalize HA.push (.cells ⟨bytesOf x.key.data.toList ++ List.replicate (kc - x.key.size) (.int .u8 0)⟩ 5 (kc, kc + 1)) = HB at E2 hb ⊢
      have hsz := E1.size
      generalize hkb0 : HA.size = kb at hb hsz ⊢
      have E09 := E1.trans E2
      have hkb : BytG (newOf H8 HB) kb x.key := ⟨_, _, newOf_at hsz hb⟩
      have hE9 : EndG (newOf H8 HB) x ep en := hE.mono (newOf_on E2)
      obtain ⟨S9, hG9, hk9, he9⟩ := go1 kb kc ep en ec HB H8 E09 hkb hE9
      refine callD_i (zzAdd2_ok hG9 hk9 he9 hi (fun h => hx.rng h) (by omega) S9) ?_
      rintro _ HC ⟨rfl, rn, g'', ZK', ZR', T', hG', SC⟩
      clear S8 S9
      (repeat (first | (refine Step.go ?_; intros) | refine iteB_t (by decide) ?_ | refine iteB_f (by decide) ?_ | (refine Duo.mk (by first | omega | exact rfl | decide) ?_; intros) | (refine Duo.mk (Clo.mk (by kernel_rfl)) ?_; intros)))
      have SE := ‹Sat _ _›
      refine ⟨⟨_, rfl⟩, g'', ws ++ [(x, rn)], ZK', ZR', T', ?_, hG', SE.to ?_⟩
      · unfold addW
        rw [if_neg (fun h => hi (hmem.1 h)), List.map_append]
        rfl
      · iterate 10 (apply Ent.pick; (focus (repeat (first | exact Sel.here | apply Sel.there))))
        exact Ent.drop (Ent.drop (Ent.drop Ent.refl))
  (repeat (first | (refine Step.go ?_; intros) | refine iteB_t (by decide) ?_ | refine iteB_f (by decide) ?_ | (refine Duo.mk (by first | omega | exact rfl | decide) ?_; intros) | (refine Duo.mk (Clo.mk (by kernel_rfl)) ?_; intros)))
  refine iteB_i (fun hh => ?_) (fun hh => l1)
  have h1 := hx.pos hh
  (repeat (first | (refine Step.go ?_; intros) | refine iteB_t (by decide) ?_ | refine iteB_f (by decide) ?_ | (refine Duo.mk (by first | omega | exact rfl | decide) ?_; intros) | (refine Duo.mk (Clo.mk (by kernel_rfl)) ?_; intros)))
  refine iteB_f (by rw [eqS_nil]; exact decide_eq_false h1) ?_
  (repeat (first | (refine Step.go ?_; intros) | refine iteB_t (by decide) ?_ | refine iteB_f (by decide) ?_ | (refine Duo.mk (by first | omega | exact rfl | decide) ?_; intros) | (refine Duo.mk (Clo.mk (by kernel_rfl)) ?_; intros)))
  refine iteB_i (fun he => ?_) (fun he => l1)
  rw [eqS_nil] at he
  have he : ¬ x.e.size = 0 := by simpa using he
  have h2 := hx.lt hh he
  (repeat (first | (refine Step.go ?_; intros) | refine iteB_t (by decide) ?_ | refine iteB_f (by decide) ?_ | (refine Duo.mk (by first | omega | exact rfl | decide) ?_; intros) | (refine Duo.mk (Clo.mk (by kernel_rfl)) ?_; intros)))
  refine iteB_f ?_ l1
  have h3 := ltS_flip x.e x.key
  rw [h2] at h3
  simpa using h3
end
end Go.Proofs.YtobolifgehagfaaGreat

set_option linter.unusedVariables false
set_option linter.unusedSimpArgs false
set_option linter.unnecessarySimpa false
namespace Go.Proofs.YtobolifgehagfaaGreat
open Go Go.Den Go.Proofs
theorem lt_snoc0 (a b : ByteArray) : ltS a (b ++ ⟨#[0]⟩) = !ltS b a := by
  have key : ∀ a b : List UInt8, Op.bytesLess a (b ++ [0]) = !Op.bytesLess b a := by
    intro a
    induction a with
    | nil =>
      intro b
      cases b with
      | nil => rfl
      | cons y b => simp [Op.bytesLess]
    | cons x a ih =>
      intro b
      cases b with
      | nil =>
        have h0 : Op.bytesLess a [] = false := by cases a <;> rfl
        simp only [List.nil_append, Op.bytesLess, h0, Bool.and_false, Bool.or_false]
        have : ¬ x < 0 := by intro h; have : x.toNat < 0 := h; omega
        simp [this]
      | cons y b =>
        simp only [List.cons_append, Op.bytesLess, ih]
        rcases Nat.lt_trichotomy x.toNat y.toNat with h | h | h
        · have h1 : x < y := h
          have h2 : ¬ y < x := by intro h3; have : y.toNat < x.toNat := h3; omega
          have h3 : ¬ y = x := by intro e; subst e; omega
          simp [h1, h2, h3]
        · have e : x = y := UInt8.toNat.inj h
          subst e
          simp
        · have h1 : y < x := h
          have h2 : ¬ x < y := by intro h3; have : x.toNat < y.toNat := h3; omega
          have h3 : ¬ x = y := by intro e; subst e; omega
          simp [h1, h2, h3]
  unfold ltS
  rw [ByteArray.toList_eq, ByteArray.toList_eq, ByteArray.toList_eq]
  have e : (b ++ (⟨#[0]⟩ : ByteArray)).data.toList = b.data.toList ++ [0] := by rw [ByteArray.data_append, Array.toList_append]
  rw [e, key]
theorem eqS_iff {a b : ByteArray} : eqS a b = true ↔ a = b := by
  refine ⟨eqS_eq, fun h => ?_⟩
  subst h
  unfold eqS
  simp
def seesW (x : Wa) (k : ByteArray) : Bool := if x.he then !ltS k x.key && (decide (x.e.size = 0) || ltS k x.e) else eqS k x.key
abbrev kI (it : It) : RK2 := (it.B.1, it.E.1)
abbrev hitsT (k : ByteArray) (T : Tr) : List It := T.inL.filter (meetI 1 (k, 0) (k ++ ⟨#[0]⟩, 0))
def seenL (ws : WL) (k : ByteArray) (T : Tr) : List Nat := memK ws k ++ (hitsT k T).flatMap fun it => memR ws (kI it)
def seenR (ws : WL) (k : ByteArray) : List Nat := (ws.filter fun p => seesW p.1 k).map (·.2)
theorem meet_sees {k : ByteArray} {it : It} {x : Wa} (hk : k.size ≠ 0) (hp : ltE 1 it.B it.E = true) (hx : x.he = true) (he : (x.key, x.e) = kI it) : meetI 1 (k, 0) (k ++ ⟨#[0]⟩, 0) it = seesW x k := by
  have e1 : x.key = it.B.1 := congrArg Prod.fst he
  have e2 : x.e = it.E.1 := congrArg Prod.snd he
  have hb : it.B.1.size ≠ 0 := by
    intro h0
    unfold ltE at hp
    rw [if_neg (by decide)] at hp
    split at hp
    · rename_i h
      have := of_decide_eq_true hp
      exact h.2 (by simp [h0, this])
    · rename_i h
      have h2 : it.E.1.size = 0 := by
        by_cases h3 : it.E.1.size = 0
        · exact h3
        · exact absurd ⟨by decide, by simp [h0, h3]⟩ h
      rw [ltS_nil _ h2] at hp; cases hp
  unfold meetI seesW
  rw [if_pos hx, e1, e2]
  have m1 : ltE 1 (k, 0) it.E = (decide (it.E.1.size = 0) || ltS k it.E.1) := by
    unfold ltE
    dsimp only
    rw [if_neg (by decide)]
    by_cases h : it.E.1.size = 0
    · rw [if_pos ⟨by decide, by simp [hk, h]⟩]
      simp [h]
    · rw [if_neg (fun e => e.2 (by simp [hk, h]))]
      simp [h]
  have m2 : ltE 1 it.B (k ++ (⟨#[0]⟩ : ByteArray), 0) = !ltS k it.B.1 := by
    unfold ltE
    dsimp only
    rw [if_neg (by decide), if_neg (fun e => e.2 (by rw [cat_size]; simp [hb])), lt_snoc0]
  rw [m1, m2, Bool.and_comm]
section
variable {g : PH} {ws : WL} {ZK : List (ByteArray × Nat)} {ZR : List (RK2 × Nat)} {T : Tr} {k : ByteArray}
theorem GrpI.uniq (h : GrpI g ws ZK ZR T) {p q : Wa × Nat} (hp : p ∈ ws) (hq : q ∈ ws) (e : p.2 = q.2) : p = q := by
  have hn := h.rs
  clear h
  induction ws with
  | nil => cases hp
  | cons a ws ih =>
    rw [List.map_cons, List.nodup_cons] at hn
    rcases List.mem_cons.1 hp with hp1 | hp1 <;> rcases List.mem_cons.1 hq with hq1 | hq1
    · rw [hp1, hq1]
    · exfalso; apply hn.1; rw [← hp1, e]; exact List.mem_map_of_mem hq1
    · exfalso; apply hn.1; rw [← hq1, ← e]; exact List.mem_map_of_mem hp1
    · exact ih hp1 hq1 hn.2
theorem memK_iff {r : Nat} : r ∈ memK ws k ↔ ∃ p ∈ ws, p.2 = r ∧ p.1.he = false ∧ p.1.key = k := by
  unfold memK
  constructor
  · intro h
    obtain ⟨p, hp, e⟩ := List.mem_map.1 h
    obtain ⟨h1, h2⟩ := List.mem_filter.1 hp
    simp only [Bool.and_eq_true, Bool.not_eq_true', decide_eq_true_eq] at h2
    exact ⟨p, h1, e, h2⟩
  · rintro ⟨p, h1, e, h2, h3⟩
    exact List.mem_map.2 ⟨p, List.mem_filter.2 ⟨h1, by simp [h2, h3]⟩, e⟩
theorem memR_iff {r : Nat} {c : RK2} : r ∈ memR ws c ↔ ∃ p ∈ ws, p.2 = r ∧ p.1.he = true ∧ (p.1.key, p.1.e) = c := by
  unfold memR
  constructor
  · intro h
    obtain ⟨p, hp, e⟩ := List.mem_map.1 h
    obtain ⟨h1, h2⟩ := List.mem_filter.1 hp
    simp only [Bool.and_eq_true, decide_eq_true_eq] at h2
    exact ⟨p, h1, e, h2⟩
  · rintro ⟨p, h1, e, h2, h3⟩
    exact List.mem_map.2 ⟨p, List.mem_filter.2 ⟨h1, by simp [h2, h3]⟩, e⟩
theorem GrpI.sub_nodup (h : GrpI g ws ZK ZR T) (f : Wa × Nat → Bool) : ((ws.filter f).map (·.2)).Nodup := h.rs.sublist (List.filter_sublist.map _)
theorem GrpI.kd (h : GrpI g ws ZK ZR T) : (T.inL.map kI).Nodup := by
  have h1 := h.ri.its.map (·.1)
  rw [List.map_map, List.map_map] at h1
  exact h1.nodup_iff.2 h.ri.nd
theorem GrpI.seen_nodup (h : GrpI g ws ZK ZR T) : (seenL ws k T).Nodup := by
  unfold seenL
  rw [List.nodup_append]
  refine ⟨h.sub_nodup _, ?_, ?_⟩
  · rw [List.Nodup, List.pairwise_flatMap]
    refine ⟨fun it _ => h.sub_nodup _, ?_⟩
    have h1 : ((hitsT k T).map kI).Nodup := h.kd.sublist (List.filter_sublist.map _)
    rw [List.Nodup, List.pairwise_map] at h1
    refine h1.imp fun {a b} hab x hx y hy e => ?_
    subst e
    obtain ⟨p, p1, p2, p3, p4⟩ := memR_iff.1 hx
    obtain ⟨q, q1, q2, q3, q4⟩ := memR_iff.1 hy
    have := h.uniq p1 q1 (by rw [p2, q2])
    subst this
    exact hab (p4.symm.trans q4)
  · intro a ha b hb e
    subst e
    obtain ⟨p, p1, p2, p3, p4⟩ := memK_iff.1 ha
    obtain ⟨it, _, hb⟩ := List.mem_flatMap.1 hb
    obtain ⟨q, q1, q2, q3, q4⟩ := memR_iff.1 hb
    have := h.uniq p1 q1 (by rw [p2, q2])
    subst this
    rw [p3] at q3; cases q3
theorem GrpI.seen_perm (h : GrpI g ws ZK ZR T) (hk : k.size ≠ 0) : (seenL ws k T).Perm (seenR ws k) := by
  refine (List.perm_ext_iff_of_nodup h.seen_nodup (h.sub_nodup _)).2 fun r => ?_
  unfold seenL
  rw [List.mem_append, memK_iff, List.mem_flatMap, List.mem_map]
  constructor
  · rintro (⟨p, p1, p2, p3, p4⟩ | ⟨it, h1, h2⟩)
    · refine ⟨p, List.mem_filter.2 ⟨p1, ?_⟩, p2⟩
      unfold seesW
      rw [p3, if_neg (by simp), p4]
      exact eqS_iff.2 rfl
    · obtain ⟨p, p1, p2, p3, p4⟩ := memR_iff.1 h2
      obtain ⟨h3, h4⟩ := List.mem_filter.1 h1
      refine ⟨p, List.mem_filter.2 ⟨p1, ?_⟩, p2⟩
      rw [← meet_sees hk (h.ri.prop it h3) p3 p4]
      exact h4
  · rintro ⟨p, hp, p2⟩
    obtain ⟨p1, p3⟩ := List.mem_filter.1 hp
    cases hh : p.1.he with
    | false =>
      unfold seesW at p3
      rw [hh, if_neg (by simp)] at p3
      exact .inl ⟨p, p1, p2, hh, (eqS_iff.1 p3).symm⟩
    | true =>
      have h1 := (h.rk (p.1.key, p.1.e)).2 ⟨p, p1, hh, rfl⟩
      obtain ⟨y, hy, hy2⟩ := List.mem_map.1 h1
      have h2 : (y.1, mIV y.2) ∈ T.inL.map itK := h.ri.its.mem_iff.2 (List.mem_map_of_mem hy)
      obtain ⟨it, hit, h3⟩ := List.mem_map.1 h2
      have e : kI it = (p.1.key, p.1.e) := by rw [← hy2]; exact congrArg Prod.fst h3
      refine .inr ⟨it, List.mem_filter.2 ⟨hit, ?_⟩, memR_iff.2 ⟨p, p1, p2, hh, e.symm⟩⟩
      rw [meet_sees hk (h.ri.prop it hit) hh e.symm]
      exact p3
theorem GrpI.at_ (h : GrpI g ws ZK ZR T) {it : It} (hit : it ∈ T.inL) : ∃ o A B, it.v = mIV o ∧ ZR = A ++ (kI it, o) :: B := by
  have h5 := h.ri.its.mem_iff.1 (List.mem_map_of_mem (f := itK) hit)
  obtain ⟨y, hy, h6⟩ := List.mem_map.1 h5
  unfold itK at h6
  have e1 := congrArg Prod.fst h6
  have e2 := congrArg Prod.snd h6
  dsimp only at e1 e2
  obtain ⟨A, B, rfl⟩ := List.append_of_mem hy
  refine ⟨y.2, A, B, e2.symm, ?_⟩
  rw [show (kI it, y.2) = y from by rw [show kI it = y.1 from e1.symm]]
end
end Go.Proofs.YtobolifgehagfaaGreat

set_option linter.unusedVariables false
set_option linter.unusedSimpArgs false
set_option linter.unnecessarySimpa false
namespace Go.Proofs.YtobolifgehagfaaGreat
open Go Go.Den Go.Proofs
def mpO : Option Nat → List Nat → HP
  | none, L => Den.lift (L = [])
  | some o, L => mp ptrK unitF o (unitL L)
def keyN (e : MapEntry) : Nat := match e.key with | .pointer (some a) => a.block | _ => 0
theorem unseen_nil {es : Array MapEntry} : unseen es #[] = es.toList := by unfold unseen; simp
section
variable {es : Array MapEntry} {clk : Nat} {L : List Nat}
theorem keysN (F : MpF ptrK unitF es clk (unitL L)) : es.toList.map keyN = L := by
  have h := congrArg (List.map fun p : Value × Value => (match p.1 with | .pointer (some a) => a.block | _ => 0)) F.eq
  rw [List.map_map, List.map_map] at h
  have h2 : (unitL L).map ((fun p : Value × Value => (match p.1 with | .pointer (some a) => a.block | _ => 0)) ∘ fun x => (ptrK x.1, unitF x.2)) = L := by
    unfold unitL
    rw [List.map_map]
    exact List.map_id' _
  rw [h2] at h
  exact h
theorem entN (F : MpF ptrK unitF es clk (unitL L)) {e : MapEntry} (h : e ∈ es.toList) : e.key = ptrK (keyN e) ∧ e.val = .agg ⟨[]⟩ ∧ keyN e ∈ L := by
  have h1 : (e.key, e.val) ∈ es.toList.map (fun e => (e.key, e.val)) := List.mem_map_of_mem h
  rw [F.eq] at h1
  obtain ⟨x, hx, h2⟩ := List.mem_map.1 h1
  have k1 : ptrK x.1 = e.key := congrArg Prod.fst h2
  have k2 : unitF x.2 = e.val := congrArg Prod.snd h2
  obtain ⟨r, hr, rfl⟩ := List.mem_map.1 hx
  have k3 : keyN e = r := by unfold keyN; rw [← k1]
  rw [k3]
  exact ⟨k1.symm, k2.symm, hr⟩
theorem next_perm {seen : Array Nat} {a b : List MapEntry} {e : MapEntry} {D : List Nat} (h : unseen es seen = a ++ e :: b) (h2 : unseen es (seen.push e.born) = a ++ b) (hp : (D ++ (unseen es seen).map keyN).Perm L) : (D ++ [keyN e] ++ (unseen es (seen.push e.born)).map keyN).Perm L := by
  refine List.Perm.trans ?_ hp
  rw [h, h2, List.append_assoc]
  refine List.Perm.append_left D ?_
  rw [List.map_append, List.map_append, List.map_cons]
  rw [List.singleton_append]
  exact List.perm_middle.symm
end
section
variable {H H0 : Heap} {l F : List HP} {g : PH} {n : Nat} {A L : List Nat} {es : Array MapEntry} {clk o : Nat}
theorem union_loop {R : Ending → Heap → Prop} (M : MpF ptrK unitF es clk (unitL L)) (hpl : ∀ r ∈ A ++ L, plainG g r) (hnd : (A ++ L).Nodup)
    (fin : ∀ H1 D, D.Perm L → Sat H1 (pt o (.map es clk) :: mp ptrK unitF n (unitL (A ++ D)) :: has g :: F) → R (.returned (.tuple ⟨[]⟩)) H1) :
    ∀ (N ir : Nat) (seen : Array Nat) (D : List Nat) (H1 : Heap), (unseen es seen).length = N → (D ++ (unseen es seen).map keyN).Perm L →
      Sat H1 (pt ir (.mapIter (some o) clk seen clk) :: pt o (.map es clk) :: mp ptrK unitF n (unitL (A ++ D)) :: has g :: F) →
      F68.L0 (some n) (some ⟨ir, 0, none⟩) H1 R := by
  intro N
  induction N with
  | zero =>
    intro ir seen D H1 hN hp S
    have hu : unseen es seen = [] := List.eq_nil_of_length_eq_zero hN
    rw [hu, List.map_nil, List.append_nil] at hp
    refine F68.L0_step ?_
    unfold F68.L0n
    refine rangeNext M S (fun _ => ?_) (fun a e b h => by rw [hu] at h; simp at h)
    (repeat (first | (refine Step.go ?_; intros) | refine iteB_t (by decide) ?_ | refine iteB_f (by decide) ?_ | (refine Duo.mk (by first | omega | exact rfl | decide) ?_; intros) | (refine Duo.mk (Clo.mk (by kernel_rfl)) ?_; intros)))
    exact fin H1 D hp (S.to (Ent.drop .refl))
  | succ N ih =>
    intro ir seen D H1 hN hp S
    refine F68.L0_step ?_
    unfold F68.L0n
    refine rangeNext M S (fun h => by rw [h] at hN; simp at hN) (fun a e b h h2 H2 S2 => ?_)
    clear S
    have hes : e ∈ es.toList := by
      have : e ∈ unseen es seen := by rw [h]; simp
      unfold unseen at this
      exact (List.mem_filter.1 this).1
    obtain ⟨k1, k2, k3⟩ := entN M hes
    have hp2 := next_perm h h2 hp
    rw [k1, k2]
    (repeat (first | (refine Step.go ?_; intros) | refine iteB_t (by decide) ?_ | refine iteB_f (by decide) ?_ | (refine Duo.mk (by first | omega | exact rfl | decide) ?_; intros) | (refine Duo.mk (Clo.mk (by kernel_rfl)) ?_; intros)))
    refine rangeEntry M S2 hes ?_
    rw [k1, k2]
    (repeat (first | (refine Step.go ?_; intros) | refine iteB_t (by decide) ?_ | refine iteB_f (by decide) ?_ | (refine Duo.mk (by first | omega | exact rfl | decide) ?_; intros) | (refine Duo.mk (Clo.mk (by kernel_rfl)) ?_; intros)))
    have hn : keyN e ∉ A ++ D := by
      have h3 : (A ++ (D ++ [keyN e] ++ (unseen es (seen.push e.born)).map keyN)).Nodup := ((List.Perm.append_left A hp2).nodup_iff).2 hnd
      rw [← List.append_assoc, ← List.append_assoc, List.nodup_append] at h3
      have h4 := h3.1
      rw [List.nodup_append] at h4
      intro h5
      exact h4.2.2 _ h5 _ (List.mem_singleton.2 rfl) rfl
    have hD : ∀ r ∈ A ++ D, plainG g r := by
      intro r hr
      refine hpl r ?_
      rcases List.mem_append.1 hr with hr | hr
      · exact List.mem_append_left _ hr
      · exact List.mem_append_right _ (hp.mem_iff.1 (List.mem_append_left _ hr))
    have S3 : Sat H2 (mp ptrK unitF n (unitL (A ++ D)) :: has g :: pt ir (.mapIter (some o) clk (seen.push e.born) clk) :: pt o (.map es clk) :: F) := by
      refine S2.to ?_
      iterate 4 (apply Ent.pick; (focus (repeat (first | exact Sel.here | apply Sel.there))))
      exact Ent.refl
    clear S2
    refine callD_i (setPut_ok (hpl _ (List.mem_append_right _ k3)) hD hn S3) ?_
    rintro _ H3 ⟨rfl, S4⟩
    clear S3
    (repeat (first | (refine Step.go ?_; intros) | refine iteB_t (by decide) ?_ | refine iteB_f (by decide) ?_ | (refine Duo.mk (by first | omega | exact rfl | decide) ?_; intros) | (refine Duo.mk (Clo.mk (by kernel_rfl)) ?_; intros)))
    refine ih ir (seen.push e.born) (D ++ [keyN e]) H3 (by rw [h2]; rw [h] at hN; simp at hN ⊢; omega) hp2 ?_
    rw [← List.append_assoc]
    refine S4.to ?_
    iterate 4 (apply Ent.pick; (focus (repeat (first | exact Sel.here | apply Sel.there))))
    exact Ent.refl
theorem union_ok {mo : Option Nat} (hpl : ∀ r ∈ A ++ L, plainG g r) (hnd : (A ++ L).Nodup) (S : Sat H (mp ptrK unitF n (unitL A) :: mpO mo L :: has g :: F)) :
    CallsH Tryz.prog 68 ⟨[.map (some n), .map mo]⟩ H (fun e H1 => e = .returned (.tuple ⟨[]⟩) ∧ ∃ D, D.Perm L ∧ Sat H1 (mp ptrK unitF n (unitL (A ++ D)) :: mpO mo L :: has g :: F)) := by
  refine F68.calls ?_
  unfold F68.go
  cases mo with
  | none =>
    obtain ⟨hL, S0⟩ : L = [] ∧ Sat H (mp ptrK unitF n (unitL A) :: has g :: F) := by
      have S1 : Sat H (Den.lift (L = []) :: mp ptrK unitF n (unitL A) :: has g :: F) := by
        refine S.to ?_
        iterate 3 (apply Ent.pick; (focus (repeat (first | exact Sel.here | apply Sel.there))))
        exact Ent.refl
      obtain ⟨a, b⟩ := SatP.lift_iff.1 S1.out
      exact ⟨a, ⟨b⟩⟩
    refine rangeNil um S0 fun ir H1 S1 => ?_
    (repeat (first | (refine Step.go ?_; intros) | refine iteB_t (by decide) ?_ | refine iteB_f (by decide) ?_ | (refine Duo.mk (by first | omega | exact rfl | decide) ?_; intros) | (refine Duo.mk (Clo.mk (by kernel_rfl)) ?_; intros)))
    refine F68.L0_step ?_
    unfold F68.L0n
    refine nextNil S1 ?_
    (repeat (first | (refine Step.go ?_; intros) | refine iteB_t (by decide) ?_ | refine iteB_f (by decide) ?_ | (refine Duo.mk (by first | omega | exact rfl | decide) ?_; intros) | (refine Duo.mk (Clo.mk (by kernel_rfl)) ?_; intros)))
    refine ⟨rfl, [], by rw [hL], ?_⟩
    rw [List.append_nil]
    refine S1.to ?_
    apply Ent.pick
    · exact Sel.there Sel.here
    · exact Ent.lift hL (Ent.drop .refl)
  | some o =>
    have S1 : Sat H (mp ptrK unitF o (unitL L) :: mp ptrK unitF n (unitL A) :: has g :: F) := by
      refine S.to ?_
      iterate 3 (apply Ent.pick; (focus (repeat (first | exact Sel.here | apply Sel.there))))
      exact Ent.refl
    clear S
    obtain ⟨es, clk, M, S2⟩ := S1.mpOpen
    clear S1
    refine rangeNew um S2 fun ir H1 S3 => ?_
    clear S2
    (repeat (first | (refine Step.go ?_; intros) | refine iteB_t (by decide) ?_ | refine iteB_f (by decide) ?_ | (refine Duo.mk (by first | omega | exact rfl | decide) ?_; intros) | (refine Duo.mk (Clo.mk (by kernel_rfl)) ?_; intros)))
    refine union_loop (A := A) M hpl hnd ?_ _ ir #[] [] H1 rfl (by rw [unseen_nil, keysN M]; exact .refl _) (by rw [List.append_nil]; exact S3)
    intro H2 D hD S4
    refine ⟨rfl, D, hD, ?_⟩
    have S5 := S4.to (Ent.mpClose M)
    refine S5.to ?_
    iterate 2 (apply Ent.pick; (focus (repeat (first | exact Sel.here | apply Sel.there))))
    exact Ent.refl
end
end Go.Proofs.YtobolifgehagfaaGreat

set_option linter.unusedVariables false
set_option linter.unusedSimpArgs false
set_option linter.unnecessarySimpa false
namespace Go.Proofs.YtobolifgehagfaaGreat
open Go Go.Den Go.Proofs
section
variable {H H0 : Heap} {l : List HP} {g : PH} {z km tp wm im sr : Nat} {ws : WL} {ZK : List (ByteArray × Nat)} {ZR : List (RK2 × Nat)} {T : Tr} {M : List (Int × Nat)} {k : ByteArray}
theorem lookO {Q : List PanicEntry → Heap → Prop} {K : Value → Heap → Prop} (S : Sat H l) (hm : mp Value.string mpI km ZK ∈ l) (h : K (.map (mget ZK k)) H) : valD Tryz.prog (Instr.lookup 90 (.map (some km)) (.string k) false) H Q K := by
  refine Sat.lookup S hm (inferInstance : MapT Tryz.prog 90 Value.string mpI (.map none)) k (fun v hv => ?_) (fun hv => ?_)
  · rw [hv] at h; exact h
  · rw [hv] at h; exact h
def FrO (F : List HP → List HP) : Prop := ∀ c l', Ent (F (c :: l')) (c :: F l') ∧ Ent (c :: F l') (F (c :: l'))
theorem ent_swp {a b : HP} {l : List HP} : Ent (a :: b :: l) (b :: a :: l) := fun k x => SatP.perm (List.Perm.swap ..) x
theorem fro_id : FrO (fun l => l) := fun c l' => ⟨Ent.refl, Ent.refl⟩
theorem fro_cons {a : HP} {F : List HP → List HP} (h : FrO F) : FrO (fun l => a :: F l) := fun c l' =>
  ⟨Ent.trans (Ent.cons (h c l').1) ent_swp, Ent.trans ent_swp (Ent.cons (h c l').2)⟩
def SetBy (g : PH) (z km tp wm im sr : Nat) (ws : WL) (ZK : List (ByteArray × Nat)) (ZR : List (RK2 × Nat)) (T : Tr) (M : List (Int × Nat)) (l : List HP) (k : ByteArray) (e : Ending) (H1 : Heap) : Prop :=
  ∃ mo L F, e = .returned (.map mo) ∧ L.Perm (seenR ws k) ∧ FrO F ∧ Sat H1 (mpO mo L :: has g :: F l) ∧ ∀ g' l', Ent (mpO mo L :: has g' :: F l') (grpM g' z km tp wm im sr ws ZK ZR T M l')
abbrev stabM (g : PH) (z km tp wm im sr : Nat) (ws : WL) (ZK : List (ByteArray × Nat)) (ZR : List (RK2 × Nat)) (T : Tr) (M : List (Int × Nat)) (l : List HP) (p : Option Addr) (n c : Nat) (hs : List It) : List HP := sl ptrs 151 1 p n c hs :: grpM g z km tp wm im sr ws ZK ZR T M l
theorem keySetE (hG : GrpI g ws ZK ZR T) : ∃ F, FrO F ∧ (∀ l, Ent (grpM g z km tp wm im sr ws ZK ZR T M l) (mpO (mget ZK k) (memK ws k) :: has g :: F l)) ∧ ∀ g' l, Ent (mpO (mget ZK k) (memK ws k) :: has g' :: F l) (grpM g' z km tp wm im sr ws ZK ZR T M l) := by
  cases hm : mget ZK k with
  | none =>
    have h1 := hG.memK0 (wget_none.1 hm)
    refine ⟨fun l => pt z (grO km tp wm im) :: mp Value.string mpI km ZK :: sets (memK ws) ZK :: sets (memR ws) ZR :: mp ptrK unitF wm (unitL (ws.map (·.2))) :: mp (Value.int .i64) ptrK im M :: trPs sr tp T l, (by repeat (first | exact fro_id | refine fro_cons ?_)), fun l => Ent.lift h1 ?_, fun g' l => Ent.liftL fun _ => ?_⟩
    · iterate 2 (apply Ent.pick; (focus (repeat (first | exact Sel.here | apply Sel.there))))
      exact Ent.refl
    · iterate 2 (apply Ent.pick; (focus (repeat (first | exact Sel.here | apply Sel.there))))
      exact Ent.refl
  | some o =>
    obtain ⟨A, B, rfl⟩ := wget_some hm
    refine ⟨fun l => sets (memK ws) (A ++ B) :: pt z (grO km tp wm im) :: mp Value.string mpI km (A ++ (k, o) :: B) :: sets (memR ws) ZR :: mp ptrK unitF wm (unitL (ws.map (·.2))) :: mp (Value.int .i64) ptrK im M :: trPs sr tp T l, (by repeat (first | exact fro_id | refine fro_cons ?_)), fun l => ?_, fun g' l => ?_⟩
    · unfold mpO
      refine Ent.trans (m := sets (memK ws) (A ++ (k, o) :: B) :: has g :: pt z (grO km tp wm im) :: mp Value.string mpI km (A ++ (k, o) :: B) :: sets (memR ws) ZR :: mp ptrK unitF wm (unitL (ws.map (·.2))) :: mp (Value.int .i64) ptrK im M :: trPs sr tp T l) ?_ (Ent.trans sets_out ?_)
      · iterate 10 (apply Ent.pick; (focus (repeat (first | exact Sel.here | apply Sel.there))))
        exact Ent.refl
      · iterate 2 (apply Ent.pick; (focus (repeat (first | exact Sel.here | apply Sel.there))))
        exact Ent.refl
    · unfold mpO
      refine Ent.trans (m := mp ptrK unitF o (unitL (memK ws k)) :: sets (memK ws) (A ++ B) :: has g' :: pt z (grO km tp wm im) :: mp Value.string mpI km (A ++ (k, o) :: B) :: sets (memR ws) ZR :: mp ptrK unitF wm (unitL (ws.map (·.2))) :: mp (Value.int .i64) ptrK im M :: trPs sr tp T l) ?_ (Ent.trans sets_in ?_)
      · iterate 3 (apply Ent.pick; (focus (repeat (first | exact Sel.here | apply Sel.there))))
        exact Ent.refl
      · iterate 10 (apply Ent.pick; (focus (repeat (first | exact Sel.here | apply Sel.there))))
        exact Ent.refl
theorem keySet_ok (hG : GrpI g ws ZK ZR T) (h0 : hitsT k T = []) (hk : k.size ≠ 0) (S : Sat H (grpM g z km tp wm im sr ws ZK ZR T M l)) : SetBy g z km tp wm im sr ws ZK ZR T M l k (.returned (.map (mget ZK k))) H := by
  have hp := hG.seen_perm hk
  unfold seenL at hp
  rw [h0, List.flatMap_nil, List.append_nil] at hp
  obtain ⟨F, hF, a, b⟩ := keySetE (z := z) (km := km) (tp := tp) (wm := wm) (im := im) (sr := sr) (M := M) (k := k) hG
  exact ⟨_, _, F, rfl, hp, hF, S.to (a l), b⟩
theorem rngSet_ok (hG : GrpI g ws ZK ZR T) {it : It} (hit : it ∈ T.inL) : ∃ o F, it.v = mIV o ∧ FrO F ∧ (∀ l, Ent (grpM g z km tp wm im sr ws ZK ZR T M l) (mpO (some o) (memR ws (kI it)) :: has g :: F l)) ∧ ∀ g' l, Ent (mpO (some o) (memR ws (kI it)) :: has g' :: F l) (grpM g' z km tp wm im sr ws ZK ZR T M l) := by
  obtain ⟨o, A, B, hv, rfl⟩ := hG.at_ hit
  refine ⟨o, fun l => sets (memR ws) (A ++ B) :: pt z (grO km tp wm im) :: mp Value.string mpI km ZK :: sets (memK ws) ZK :: mp ptrK unitF wm (unitL (ws.map (·.2))) :: mp (Value.int .i64) ptrK im M :: trPs sr tp T l, hv, (by repeat (first | exact fro_id | refine fro_cons ?_)), fun l => ?_, fun g' l => ?_⟩
  · unfold mpO
    refine Ent.trans (m := sets (memR ws) (A ++ (kI it, o) :: B) :: has g :: pt z (grO km tp wm im) :: mp Value.string mpI km ZK :: sets (memK ws) ZK :: mp ptrK unitF wm (unitL (ws.map (·.2))) :: mp (Value.int .i64) ptrK im M :: trPs sr tp T l) ?_ (Ent.trans sets_out ?_)
    · iterate 10 (apply Ent.pick; (focus (repeat (first | exact Sel.here | apply Sel.there))))
      exact Ent.refl
    iterate 2 (apply Ent.pick; (focus (repeat (first | exact Sel.here | apply Sel.there))))
    exact Ent.refl
  · unfold mpO
    refine Ent.trans (m := mp ptrK unitF o (unitL (memR ws (kI it))) :: sets (memR ws) (A ++ B) :: has g' :: pt z (grO km tp wm im) :: mp Value.string mpI km ZK :: sets (memK ws) ZK :: mp ptrK unitF wm (unitL (ws.map (·.2))) :: mp (Value.int .i64) ptrK im M :: trPs sr tp T l) ?_ (Ent.trans sets_in ?_)
    · iterate 3 (apply Ent.pick; (focus (repeat (first | exact Sel.here | apply Sel.there))))
      exact Ent.refl
    · iterate 10 (apply Ent.pick; (focus (repeat (first | exact Sel.here | apply Sel.there))))
      exact Ent.refl
theorem nodeB (S : Sat H (grpM g z km tp wm im sr ws ZK ZR T M l)) {it : It} (hit : it ∈ T.inL) : ∃ m a b c d, Blk H it.r (ndO it m a b c d) := by
  have S1 : Sat H (tr g0 1 sr sr T :: []) := by
    refine S.to ?_
    iterate 1 (apply Ent.pick; (focus (repeat (first | exact Sel.here | apply Sel.there))))
    exact Ent.nil
  exact trH_node T sr (trH_of S1) hit
end
end Go.Proofs.YtobolifgehagfaaGreat

set_option linter.unusedVariables false
set_option linter.unusedSimpArgs false
set_option linter.unnecessarySimpa false
namespace Go.Proofs.YtobolifgehagfaaGreat
open Go Go.Den Go.Proofs
section
variable {H H0 : Heap} {l : List HP} {g : PH} {z km tp wm im sr : Nat} {ws : WL} {ZK : List (ByteArray × Nat)} {ZR : List (RK2 × Nat)} {T : Tr} {M : List (Int × Nat)} {k : ByteArray} {p : Option Addr} {c : Nat}
theorem seen_plain (hG : GrpI g ws ZK ZR T) {r : Nat} (h : r ∈ seenL ws k T) : plainG g r := by
  unfold seenL at h
  rcases List.mem_append.1 h with h | h
  · exact hG.plain r (memK_sub h)
  · obtain ⟨it, _, h⟩ := List.mem_flatMap.1 h
    exact hG.plain r (memR_sub h)
theorem ranges_ok (hG : GrpI g ws ZK ZR T) (hk : k.size ≠ 0) (hl : (hitsT k T).length ≤ 1000000) {n : Nat} : ∀ (j i : Nat) (D : List Nat) (H : Heap), i + j = (hitsT k T).length → D.Perm (memK ws k ++ ((hitsT k T).take i).flatMap fun it => memR ws (kI it)) →
    Sat H (mp ptrK unitF n (unitL D) :: stabM g z km tp wm im sr ws ZK ZR T M l p (hitsT k T).length c (hitsT k T)) →
    F56.L2 n p (hitsT k T).length c ((hitsT k T).length : Nat) (i : Nat) H (SetBy g z km tp wm im sr ws ZK ZR T M l k) := by
  intro j
  induction j with
  | zero =>
    intro i D H hi hD S
    obtain rfl : i = (hitsT k T).length := by omega
    refine F56.L2_step ?_
    unfold F56.L2n
    refine iteB_f (by simp) ?_
    rw [List.take_length] at hD
    refine ⟨some n, D, fun l => sl ptrs 151 1 p (hitsT k T).length c (hitsT k T) :: pt z (grO km tp wm im) :: mp Value.string mpI km ZK :: sets (memK ws) ZK :: sets (memR ws) ZR :: mp ptrK unitF wm (unitL (ws.map (·.2))) :: mp (Value.int .i64) ptrK im M :: trPs sr tp T l, rfl, hD.trans (hG.seen_perm hk), (by repeat (first | exact fro_id | refine fro_cons ?_)), S.to ?_, fun g' l' => ?_⟩
    · unfold mpO
      iterate 4 (apply Ent.pick; (focus (repeat (first | exact Sel.here | apply Sel.there))))
      exact Ent.refl
    · iterate 2 (apply Ent.pick; (focus (repeat (first | exact Sel.here | apply Sel.there))))
      iterate 8 (apply Ent.pick; (focus (repeat (first | exact Sel.here | apply Sel.there))))
      exact Ent.drop (Ent.drop Ent.refl)
  | succ j ih =>
    intro i D H hi hD S
    obtain ⟨it, hit⟩ : ∃ it, (hitsT k T)[i]? = some it := get_of (by omega)
    have hm : it ∈ T.inL := (List.mem_filter.1 (List.mem_of_getElem? hit)).1
    have hI := HasI.nat hit
    obtain ⟨ra, oa, rfl⟩ := S.slSome (f := ptrs) (E := 151) (z := 1) (p := p) (n := (hitsT k T).length) (c := c) (xs := hitsT k T) (List.mem_cons_of_mem _ (List.mem_cons_self ..)) (by omega)
    refine F56.L2_step ?_
    unfold F56.L2n
    refine iteB_t (by simp; omega) ?_
    obtain ⟨m, x1, x2, x3, x4, B1⟩ := nodeB (S.to (Ent.drop (Ent.drop Ent.refl))) hm
    obtain ⟨o, F, hv, hF, fwd, back⟩ := rngSet_ok (z := z) (km := km) (tp := tp) (wm := wm) (im := im) (sr := sr) (M := M) hG hm
    unfold ndO at B1
    rw [hv] at B1
    (repeat (first | (refine Step.go ?_; intros) | refine iteB_t (by decide) ?_ | refine iteB_f (by decide) ?_ | (refine Duo.mk (by first | omega | exact rfl | decide) ?_; intros) | (refine Duo.mk (Clo.mk (by kernel_rfl)) ?_; intros)))
    have S3 : Sat H (mp ptrK unitF n (unitL D) :: mpO (some o) (memR ws (kI it)) :: has g :: sl ptrs 151 1 (some ⟨ra, oa, none⟩) (hitsT k T).length c (hitsT k T) :: F l) := by
      refine (S.to (Ent.cons (Ent.cons (fwd l)))).to ?_
      iterate 4 (apply Ent.pick; (focus (repeat (first | exact Sel.here | apply Sel.there))))
      exact Ent.refl
    clear S
    have hsplit : (hitsT k T).take (i + 1) = (hitsT k T).take i ++ [it] := by rw [List.take_add_one, hit]; rfl
    have hD2 : (D ++ memR ws (kI it)).Perm (memK ws k ++ ((hitsT k T).take (i + 1)).flatMap fun it => memR ws (kI it)) := by
      rw [hsplit, List.flatMap_append, ← List.append_assoc]
      refine List.Perm.append hD ?_
      simp
    have hsub : (memK ws k ++ ((hitsT k T).take (i + 1)).flatMap fun it => memR ws (kI it)).Sublist (seenL ws k T) := by
      unfold seenL
      refine List.Sublist.append_left ?_ _
      conv => rhs; rw [← List.take_append_drop (i + 1) (hitsT k T)]
      rw [List.flatMap_append]
      exact List.sublist_append_left _ _
    have hnd : (D ++ memR ws (kI it)).Nodup := hD2.nodup_iff.2 (hG.seen_nodup.sublist hsub)
    refine callD_i (union_ok (fun r hr => seen_plain (k := k) hG (hsub.subset (hD2.mem_iff.1 hr))) hnd S3) ?_
    rintro _ H2 ⟨rfl, D', hD', S4⟩
    clear S3
    (repeat (first | (refine Step.go ?_; intros) | refine iteB_t (by decide) ?_ | refine iteB_f (by decide) ?_ | (refine Duo.mk (by first | omega | exact rfl | decide) ?_; intros) | (refine Duo.mk (Clo.mk (by kernel_rfl)) ?_; intros)))
    rw [wr64 (by omega) (by omega), show ((i : Nat) : Int) + 1 = ((i + 1 : Nat) : Int) by omega]
    refine ih (i + 1) (D ++ D') H2 (by omega) ((List.Perm.append_left D hD').trans hD2) ?_
    have S5 : Sat H2 (mp ptrK unitF n (unitL (D ++ D')) :: sl ptrs 151 1 (some ⟨ra, oa, none⟩) (hitsT k T).length c (hitsT k T) :: mpO (some o) (memR ws (kI it)) :: has g :: F l) := by
      refine S4.to ?_
      iterate 4 (apply Ent.pick; (focus (repeat (first | exact Sel.here | apply Sel.there))))
      exact Ent.refl
    exact S5.to (Ent.cons (Ent.cons (back _ _)))
theorem copy_ok (hG : GrpI g ws ZK ZR T) (hk : k.size ≠ 0) (hl : (hitsT k T).length ≤ 1000000) (S : Sat H (stabM g z km tp wm im sr ws ZK ZR T M l p (hitsT k T).length c (hitsT k T))) :
    F56.L1 (some (aA z)) k p (hitsT k T).length c H (SetBy g z km tp wm im sr ws ZK ZR T M l k) := by
  refine F56.L1_step ?_
  unfold F56.L1n
  refine Step.go ?_
  intro n H1 S1
  clear S
  (iterate 2 (refine Step.go ?_; intros))
  refine lookO (ZK := ZK) S1 (by simp) ?_
  refine ⟨_, rfl, ?_⟩
  have S2 := S1.mpNew ptrK unitF
  clear S1
  obtain ⟨F, hF, fwd, back⟩ := keySetE (z := z) (km := km) (tp := tp) (wm := wm) (im := im) (sr := sr) (M := M) (k := k) hG
  have S3 : Sat H1 (mp ptrK unitF n (unitL []) :: mpO (mget ZK k) (memK ws k) :: has g :: sl ptrs 151 1 p (hitsT k T).length c (hitsT k T) :: F l) := by
    refine (S2.to (Ent.cons (Ent.cons (fwd l)))).to ?_
    iterate 4 (apply Ent.pick; (focus (repeat (first | exact Sel.here | apply Sel.there))))
    exact Ent.refl
  clear S2
  refine callD_i (union_ok (A := []) (fun r hr => hG.plain r (memK_sub (by simpa using hr))) (by rw [List.nil_append]; exact hG.sub_nodup _) S3) ?_
  rintro _ H2 ⟨rfl, D, hD, S4⟩
  clear S3
  (repeat (first | (refine Step.go ?_; intros) | refine iteB_t (by decide) ?_ | refine iteB_f (by decide) ?_ | (refine Duo.mk (by first | omega | exact rfl | decide) ?_; intros) | (refine Duo.mk (Clo.mk (by kernel_rfl)) ?_; intros)))
  have S5 : Sat H2 (mp ptrK unitF n (unitL ([] ++ D)) :: sl ptrs 151 1 p (hitsT k T).length c (hitsT k T) :: mpO (mget ZK k) (memK ws k) :: has g :: F l) := by
    refine S4.to ?_
    iterate 4 (apply Ent.pick; (focus (repeat (first | exact Sel.here | apply Sel.there))))
    exact Ent.refl
  exact ranges_ok hG hk hl (hitsT k T).length 0 ([] ++ D) H2 (by omega) (by simpa using hD) (S5.to (Ent.cons (Ent.cons (back _ _))))
theorem one_set (hG : GrpI g ws ZK ZR T) (hk : k.size ≠ 0) {it : It} (h1 : hitsT k T = [it]) (h0 : memK ws k = []) (S : Sat H (stabM g z km tp wm im sr ws ZK ZR T M l p (hitsT k T).length c (hitsT k T))) :
    F56.L3 p (hitsT k T).length c H (SetBy g z km tp wm im sr ws ZK ZR T M l k) := by
  have hit : (hitsT k T)[0]? = some it := by rw [h1]; rfl
  have hm : it ∈ T.inL := (List.mem_filter.1 (List.mem_of_getElem? hit)).1
  have hI : HasI (hitsT k T) (0 : Int) it := HasI.nat (i := 0) hit
  obtain ⟨ra, oa, rfl⟩ := S.slSome (f := ptrs) (E := 151) (z := 1) (p := p) (n := (hitsT k T).length) (c := c) (xs := hitsT k T) (List.mem_cons_self ..) (by rw [h1]; simp)
  refine F56.L3_step ?_
  unfold F56.L3n
  obtain ⟨m, x1, x2, x3, x4, B1⟩ := nodeB (S.to (Ent.drop Ent.refl)) hm
  obtain ⟨o, F, hv, hF, fwd, back⟩ := rngSet_ok (z := z) (km := km) (tp := tp) (wm := wm) (im := im) (sr := sr) (M := M) hG hm
  unfold ndO at B1
  rw [hv] at B1
  have hlen : (hitsT k T).length = 1 := by rw [h1]; rfl
  (repeat (first | (refine Step.go ?_; intros) | refine iteB_t (by decide) ?_ | refine iteB_f (by decide) ?_ | (refine Duo.mk (by first | omega | exact rfl | decide) ?_; intros) | (refine Duo.mk (Clo.mk (by kernel_rfl)) ?_; intros)))
  have hp := hG.seen_perm hk
  unfold seenL at hp
  rw [h1, h0] at hp
  refine ⟨some o, memR ws (kI it), F, rfl, by simpa using hp, hF, (S.to (Ent.drop Ent.refl)).to (fwd l), back⟩
theorem setBy_ok (hG : GrpI g ws ZK ZR T) (hk : k.size ≠ 0) (hks : k.size ≤ 140737488351232) (hl : ws.length ≤ 100000) (S : Sat H (grpM g z km tp wm im sr ws ZK ZR T M l)) :
    CallsH Tryz.prog 56 ⟨[pA z, .string k]⟩ H (SetBy g z km tp wm im sr ws ZK ZR T M l k) := by
  have hz := hG.zlen
  have hT := hG.ri.len
  have hh : (hitsT k T).length ≤ T.inL.length := List.length_filter_le ..
  refine F56.calls ?_
  unfold F56.go
  (iterate 2 (refine Step.go ?_; intros))
  refine lookO (ZK := ZK) S (by simp) ?_
  (repeat (first | (refine Step.go ?_; intros) | refine iteB_t (by decide) ?_ | refine iteB_f (by decide) ?_ | (refine Duo.mk (by first | omega | exact rfl | decide) ?_; intros) | (refine Duo.mk (Clo.mk (by kernel_rfl)) ?_; intros)))
  refine nilV_mk ?_
  refine gives_i S (mkAffP hks) fun H2 E2 S2 => ?_
  clear S
  (repeat (first | (refine Step.go ?_; intros) | refine iteB_t (by decide) ?_ | refine iteB_f (by decide) ?_ | (refine Duo.mk (by first | omega | exact rfl | decide) ?_; intros) | (refine Duo.mk (Clo.mk (by kernel_rfl)) ?_; intros)))
  refine callI_i (f := 127) (by kernel_rfl) (by kernel_rfl) (by kernel_rfl) ?_
  have ST : Sat H2 (tr g0 1 sr sr T :: pt tp (treO (T.ref sr) (T.inL.length : Nat) sr) :: pt sr senO :: has g0 :: pt z (grO km tp wm im) :: has g :: mp Value.string mpI km ZK :: sets (memK ws) ZK :: sets (memR ws) ZR :: mp ptrK unitF wm (unitL (ws.map (·.2))) :: mp (Value.int .i64) ptrK im M :: l) := by
    refine (has_nothing S2).to ?_
    iterate 11 (apply Ent.pick; (focus (repeat (first | exact Sel.here | apply Sel.there))))
    exact Ent.refl
  clear S2
  have stab := Stab_ok (g := g0) (o := 1) (sr := sr) (tp := tp) (T := T) (n := (T.inL.length : Nat)) (B := (k, 0)) (E := (k ++ ⟨#[0]⟩, 0)) (i := .mk 181 (.string k)) (j := .mk 181 (.string (k ++ ⟨#[0]⟩))) (affG k) (affG _) rfl (by omega) ST
  refine callD_i stab ?_
  rintro _ H3 ⟨p, c, rfl, S3⟩
  clear ST
  have hvis : vis 1 (k, 0) (k ++ (⟨#[0]⟩ : ByteArray), 0) T = hitsT k T := by
    refine vis_ok ?_ T hG.ri.srt hG.ri.prop
    unfold ltE
    dsimp only
    rw [if_neg (by decide), if_neg (fun e => e.2 (by rw [cat_size]; simp [hk])), lt_snoc0]
    cases e : ltS k k with
    | false => rfl
    | true => have := ltS_asymm e; rw [e] at this; cases this
  rw [hvis] at S3 ⊢
  clear stab
  have S4 : Sat H3 (stabM g z km tp wm im sr ws ZK ZR T M l p (hitsT k T).length c (hitsT k T)) := by
    refine S3.to ?_
    iterate 11 (apply Ent.pick; (focus (repeat (first | exact Sel.here | apply Sel.there))))
    exact Ent.drop Ent.refl
  clear S3
  refine ⟨_, _, _, rfl, ?_⟩
  refine iteB_i (fun h => ?_) (fun h => ?_)
  · have h : hitsT k T = [] := List.length_eq_zero_iff.1 (by have := eq_of_beq h; omega)
    exact keySet_ok hG h hk (S4.to (Ent.drop Ent.refl))
  rw [h]
  refine iteB_f rfl ?_
  refine F56.L0_step ?_
  unfold F56.L0n
  refine iteB_i (fun h1 => ?_) (fun h1 => copy_ok hG hk (by omega) S4)
  obtain ⟨it, h1⟩ : ∃ it, hitsT k T = [it] := by
    have := eq_of_beq h1
    exact List.length_eq_one_iff.1 (by omega)
  cases hm : mget ZK k with
  | none =>
    refine mapLenNil rfl um ?_
    refine ⟨_, rfl, ?_⟩
    refine iteB_t rfl ?_
    exact one_set hG hk h1 (hG.memK0 (wget_none.1 hm)) S4
  | some o =>
    obtain ⟨F, hF, fwd, back⟩ := keySetE (z := z) (km := km) (tp := tp) (wm := wm) (im := im) (sr := sr) (M := M) (k := k) hG
    rw [hm] at fwd
    have S5 : Sat H3 (mp ptrK unitF o (unitL (memK ws k)) :: has g :: F l) := (S4.to (Ent.drop Ent.refl)).to (fwd l)
    obtain ⟨h', ⟨es, clk, hb, he, _, _⟩, hs⟩ := S5.mem (c := mp ptrK unitF o (unitL (memK ws k))) (by simp)
    refine mapLen (t := 94) rfl um (hs _ _ hb) ?_
    have he0 : es.size = (memK ws k).length := by
      have := congrArg List.length he
      simpa using this
    rw [he0]
    refine ⟨_, rfl, ?_⟩
    refine iteB_i (fun h2 => ?_) (fun h2 => copy_ok hG hk (by omega) S4)
    exact one_set hG hk h1 (List.length_eq_zero_iff.1 (by have := eq_of_beq h2; omega)) S4
end
end Go.Proofs.YtobolifgehagfaaGreat

set_option linter.unusedVariables false
set_option linter.unusedSimpArgs false
set_option linter.unnecessarySimpa false
namespace Go.Proofs.YtobolifgehagfaaGreat
open Go Go.Den Go.Proofs
def idN (ws : WL) (r : Nat) : Int := match ws.find? (fun p => p.2 == r) with | some p => p.1.id | none => 0
section
variable {H H0 : Heap} {l F : List HP} {g : PH} {z km tp wm im sr : Nat} {ws : WL} {ZK : List (ByteArray × Nat)} {ZR : List (RK2 × Nat)} {T : Tr} {M : List (Int × Nat)} {k : ByteArray}
theorem GrpI.idN (hG : GrpI g ws ZK ZR T) {p : Wa × Nat} (hp : p ∈ ws) : idN ws p.2 = p.1.id := by
  unfold Go.Proofs.YtobolifgehagfaaGreat.idN
  cases h : ws.find? (fun q => q.2 == p.2) with
  | none =>
    have := List.find?_eq_none.1 h p hp
    simp at this
  | some q =>
    have h1 := List.mem_of_find?_eq_some h
    have h2 := List.find?_some h
    have e := hG.uniq h1 hp (eq_of_beq h2)
    rw [e]
end
end Go.Proofs.YtobolifgehagfaaGreat
