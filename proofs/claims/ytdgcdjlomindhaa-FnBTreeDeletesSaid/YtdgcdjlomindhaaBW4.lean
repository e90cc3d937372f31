/- What functions of this seat do, each proved by a walk; no condition. -/
import Derived.Test.YtdgcdjlomindhaaBW3
set_option linter.unusedVariables false
set_option linter.unusedSimpArgs false
set_option linter.unnecessarySimpa false
namespace Go.Proofs.Ytdgcdjlomindhaa
open Go Go.Den Go.Proofs
/-! Two children and the item between them. -/
theorem join_inL {α : Type} {g : α → List Itm} {xs1 xs2 : List Itm} {y : Itm} {ks1 ks2 : List α} (hk : (ks1 = [] ∧ ks2 = []) ∨ (ks1.length = xs1.length + 1 ∧ ks2.length = xs2.length + 1)) :
    inter (xs1 ++ y :: xs2) ((ks1 ++ ks2).map g) = inter xs1 (ks1.map g) ++ y :: inter xs2 (ks2.map g) := by
  have hx : (xs1 ++ y :: xs2)[xs1.length]? = some y := by simp
  have h := node_split (g := g) (ks := ks1 ++ ks2) hx (by
    rcases hk with ⟨rfl, rfl⟩ | ⟨h1, h2⟩
    · exact .inl rfl
    · right; simp [h1, h2]; omega)
  rw [h]
  have e1 : (xs1 ++ y :: xs2).take xs1.length = xs1 := List.take_left' rfl
  have e2 : (xs1 ++ y :: xs2).drop (xs1.length + 1) = xs2 := by rw [List.drop_append]; simp
  rw [e1, e2]
  rcases hk with ⟨rfl, rfl⟩ | ⟨h1, h2⟩
  · simp
  · have e3 : (ks1 ++ ks2).take (xs1.length + 1) = ks1 := List.take_left' h1
    have e4 : (ks1 ++ ks2).drop (xs1.length + 1) = ks2 := List.drop_left' h1
    rw [e3, e4]
theorem trio_inL {α : Type} {g : α → List Itm} {X Y : List Itm} {y : Itm} {A B : List α} {a b : α} (h1 : X.length = A.length) : inter (X ++ y :: Y) ((A ++ a :: b :: B).map g) = preL X (A.map g) ++ ((g a ++ y :: g b) ++ postL Y (B.map g)) := by
  have := inter_split (xs1 := X) (xs2 := y :: Y) (k := g a) (ks1 := A.map g) (ks2 := g b :: B.map g) (by simp [h1])
  rw [List.map_append, List.map_cons, List.map_cons, this]
  simp [postL]
theorem one_inL {α : Type} {g : α → List Itm} {X Y : List Itm} {A B : List α} {a : α} (h1 : X.length = A.length) : inter (X ++ Y) ((A ++ a :: B).map g) = preL X (A.map g) ++ (g a ++ postL Y (B.map g)) := by
  have := inter_split (xs1 := X) (xs2 := Y) (k := g a) (ks1 := A.map g) (ks2 := B.map g) (by simp [h1])
  rw [List.map_append, List.map_cons, this]
section
variable {d h : Nat}
/-- A child that lies between. -/
structure KidOk (d h : Nat) (k : Tr (h + 1)) : Prop where
  wf : WF d (h + 1) k
  min : d ≤ k.xs.length + 1
theorem WF.kid {t : Tr (h + 1 + 1)} (w : WF d (h + 1 + 1) t) {k : Tr (h + 1)} (hk : k ∈ t.ks) : KidOk d h k := ⟨(w.2 k hk).1, (w.2 k hk).2⟩
theorem mk_WF {b : Nat} {xs : List Itm} {ks : List (Tr (h + 1))} (hl : ks.length = xs.length + 1) (hk : ∀ k ∈ ks, KidOk d h k) : WF d (h + 1 + 1) (mkT b xs ks) := ⟨fun _ => hl, fun k hkk => ⟨(hk k hkk).wf, (hk k hkk).min⟩⟩
theorem leaf_or {t : Tr (h + 1)} (w : WF d (h + 1) t) : (h = 0 ∧ t.ks = []) ∨ (0 < h ∧ t.ks.length = t.xs.length + 1) := by
  cases h with
  | zero => exact .inl ⟨rfl, leaf_ks no0 t.ks⟩
  | succ h => exact .inr ⟨Nat.succ_pos h, w.1 (Nat.succ_pos h)⟩
theorem pair_or {a b : Tr (h + 1)} (wa : WF d (h + 1) a) (wb : WF d (h + 1) b) : (a.ks = [] ∧ b.ks = []) ∨ (a.ks.length = a.xs.length + 1 ∧ b.ks.length = b.xs.length + 1) := by
  rcases leaf_or wa with ⟨h1, h2⟩ | ⟨h1, h2⟩ <;> rcases leaf_or wb with ⟨h3, h4⟩ | ⟨h3, h4⟩
  · exact .inl ⟨h2, h4⟩
  · omega
  · omega
  · exact .inr ⟨h2, h4⟩
/-- The last of the left child goes up, and what was between goes down to the right. -/
theorem left_law {a b : Tr (h + 1)} {y z : Itm} {a0 : List Itm} {k0 w : List (Tr h)} (wa : WF d (h + 1) a) (wb : WF d (h + 1) b) (e1 : a.xs = a0 ++ [z]) (e2 : a.ks = k0 ++ w) (hw : (w = [] ∧ a.ks = []) ∨ w.length = 1) :
    inL (h + 1) (mkT a.b a0 k0) ++ z :: inL (h + 1) (mkT b.b (y :: b.xs) (w ++ b.ks)) = inL (h + 1) a ++ y :: inL (h + 1) b := by
  have hp := pair_or wa wb
  have j1 := join_inL (g := inL h) (y := y) hp
  have j2 : inter (a0 ++ z :: (y :: b.xs)) ((k0 ++ (w ++ b.ks)).map (inL h)) = _ := join_inL (g := inL h) (y := z) (xs1 := a0) (xs2 := y :: b.xs) (ks1 := k0) (ks2 := w ++ b.ks) (by
    rcases hp with ⟨h1, h2⟩ | ⟨h1, h2⟩
    · left
      rw [h1] at e2
      have := List.append_eq_nil_iff.1 e2.symm
      exact ⟨this.1, by rw [this.2, h2]; rfl⟩
    · right
      rcases hw with ⟨h3, h4⟩ | h3
      · rw [h4] at h1; simp at h1
      · rw [e1, e2] at h1
        simp only [List.length_append, List.length_cons, List.length_nil] at h1
        constructor
        · omega
        · simp only [List.length_append, List.length_cons]; omega)
  have e3 : a0 ++ z :: (y :: b.xs) = a.xs ++ y :: b.xs := by rw [e1]; simp
  have e4 : k0 ++ (w ++ b.ks) = a.ks ++ b.ks := by rw [e2]; simp
  rw [e3, e4] at j2
  have a1 : inL (h + 1) a = inter a.xs (a.ks.map (inL h)) := rfl
  have a2 : inL (h + 1) b = inter b.xs (b.ks.map (inL h)) := rfl
  have a3 : inL (h + 1) (mkT a.b a0 k0) = inter a0 (k0.map (inL h)) := rfl
  have a4 : inL (h + 1) (mkT b.b (y :: b.xs) (w ++ b.ks)) = inter (y :: b.xs) ((w ++ b.ks).map (inL h)) := rfl
  rw [a1, a2, a3, a4, ← j1, j2]
/-- The first of the right child goes up, and what was between goes down to the left. -/
theorem right_law {a b : Tr (h + 1)} {y z : Itm} {b0 : List Itm} {k0 w : List (Tr h)} (wa : WF d (h + 1) a) (wb : WF d (h + 1) b) (e1 : b.xs = z :: b0) (e2 : b.ks = w ++ k0) (hw : (w = [] ∧ b.ks = []) ∨ w.length = 1) :
    inL (h + 1) (mkT a.b (a.xs ++ [y]) (a.ks ++ w)) ++ z :: inL (h + 1) (mkT b.b b0 k0) = inL (h + 1) a ++ y :: inL (h + 1) b := by
  have hp := pair_or wa wb
  have j1 := join_inL (g := inL h) (y := y) hp
  have j2 : inter ((a.xs ++ [y]) ++ z :: b0) (((a.ks ++ w) ++ k0).map (inL h)) = _ := join_inL (g := inL h) (y := z) (xs1 := a.xs ++ [y]) (xs2 := b0) (ks1 := a.ks ++ w) (ks2 := k0) (by
    rcases hp with ⟨h1, h2⟩ | ⟨h1, h2⟩
    · left
      rw [h2] at e2
      have := List.append_eq_nil_iff.1 e2.symm
      exact ⟨by rw [this.1, h1]; rfl, this.2⟩
    · right
      rcases hw with ⟨h3, h4⟩ | h3
      · rw [h4] at h2; simp at h2
      · rw [e1, e2] at h2
        simp only [List.length_append, List.length_cons] at h2
        constructor
        · simp only [List.length_append, List.length_cons, List.length_nil]; omega
        · omega)
  have e3 : (a.xs ++ [y]) ++ z :: b0 = a.xs ++ y :: b.xs := by rw [e1]; simp
  have e4 : (a.ks ++ w) ++ k0 = a.ks ++ b.ks := by rw [e2]; simp
  rw [e3, e4] at j2
  have a1 : inL (h + 1) a = inter a.xs (a.ks.map (inL h)) := rfl
  have a2 : inL (h + 1) b = inter b.xs (b.ks.map (inL h)) := rfl
  have a3 : inL (h + 1) (mkT a.b (a.xs ++ [y]) (a.ks ++ w)) = inter (a.xs ++ [y]) ((a.ks ++ w).map (inL h)) := rfl
  have a4 : inL (h + 1) (mkT b.b b0 k0) = inter b0 (k0.map (inL h)) := rfl
  rw [a1, a2, a3, a4, ← j1, j2]
/-- Both and what was between make one. -/
theorem merge_law {a b : Tr (h + 1)} {y : Itm} (wa : WF d (h + 1) a) (wb : WF d (h + 1) b) : inL (h + 1) (mkT a.b (a.xs ++ y :: b.xs) (a.ks ++ b.ks)) = inL (h + 1) a ++ y :: inL (h + 1) b :=
  join_inL (g := inL h) (y := y) (pair_or wa wb)
end
/-! What is taken out. -/
def remR (typ : Int) (L : List Itm) (k : Int) : Option Itm × List Itm := if typ = 0 then (getI L k, delI L k) else (L.getLast?, L.dropLast)
/-- Where what is to be taken out is looked for. -/
def At_ (typ : Int) (xs : List Itm) (k : Int) (i : Nat) (found : Bool) : Prop := (typ = 0 ∧ FindAt xs k i found) ∨ (typ = 2 ∧ i = xs.length ∧ found = false)
theorem FindAt.uniq {xs : List Itm} {k : Int} {i j : Nat} {f g : Bool} (h1 : FindAt xs k i f) (h2 : FindAt xs k j g) : i = j ∧ f = g := by
  have key : ∀ {i j : Nat} {f g : Bool}, FindAt xs k i f → FindAt xs k j g → ¬ i < j := by
    intro i j f g h1 h2 hlt
    obtain ⟨x, hx⟩ : ∃ x, xs[i]? = some x := get_of (by have := h2.le; omega)
    have a := h2.lo i x hx hlt
    cases f with
    | true =>
      obtain ⟨y, hy, hk⟩ := h1.hit rfl
      rw [hx] at hy; cases hy; omega
    | false =>
      have b := h1.hi i x hx (Nat.le_refl _) (fun h => by cases h)
      omega
  have e : i = j := by have := key h1 h2; have := key h2 h1; omega
  subst e
  refine ⟨rfl, ?_⟩
  cases f <;> cases g
  · rfl
  · obtain ⟨y, hy, hk⟩ := h2.hit rfl
    have := h1.hi i y hy (Nat.le_refl _) (fun h => by cases h)
    omega
  · obtain ⟨y, hy, hk⟩ := h1.hit rfl
    have := h2.hi i y hy (Nat.le_refl _) (fun h => by cases h)
    omega
  · rfl
end Go.Proofs.Ytdgcdjlomindhaa

set_option linter.unusedVariables false
set_option linter.unusedSimpArgs false
set_option linter.unnecessarySimpa false
namespace Go.Proofs.Ytdgcdjlomindhaa
open Go Go.Den Go.Proofs
/-! A child takes from its left neighbour. -/
section
variable {H : Heap} {l : List HP} {c d h j : Nat} {A B : List (Tr (h + 1))} {a b : Tr (h + 1)}
theorem two_out {t : Tr (h + 1 + 1)} (e : t.ks = A ++ a :: b :: B) (S : Sat H (tr c (h + 1 + 1) t :: l)) : ∃ ip ic cp cc, Sat H (pt t.b (.cells ⟨[.slice ip t.xs.length ic, .slice cp t.ks.length cc, .pointer (at_ c)]⟩ 94) :: sI ip t.xs.length ic t.xs :: sP cp t.ks.length cc ((t.ks.map (bk (h + 1))).map at_) :: tr c (h + 1) a :: tr c (h + 1) b :: star ((A ++ B).map (tr c (h + 1))) :: l) := by
  obtain ⟨ip, ic, cp, cc, S0⟩ := tr_open S
  have S1 : Sat H (star (t.ks.map (tr c (h + 1))) :: _) := S0.to (Ent.bring (Sel.there (Sel.there (Sel.there Sel.here))))
  have S2 := S1.to (kid_out' e)
  have S3 : Sat H (star ((A ++ b :: B).map (tr c (h + 1))) :: _) := S2.to (Ent.bring (Sel.there Sel.here))
  have S4 := S3.to kid_out
  exact ⟨ip, ic, cp, cc, Sat.fin⟩
theorem two_in {tb : Nat} {xs : List Itm} {ip cp : Option Addr} {ic cc n m : Nat} {ps : List (Option Addr)} (e : ps = ((A ++ a :: b :: B).map (bk (h + 1))).map at_) (S : Sat H (pt tb (.cells ⟨[.slice ip n ic, .slice cp m cc, .pointer (at_ c)]⟩ 94) :: sI ip n ic xs :: sP cp m cc ps :: tr c (h + 1) a :: tr c (h + 1) b :: star ((A ++ B).map (tr c (h + 1))) :: l)) :
    Sat H (tr c (h + 1 + 1) (mkT tb xs (A ++ a :: b :: B)) :: l) := by
  subst e
  have S1 : Sat H (tr c (h + 1) b :: star ((A ++ B).map (tr c (h + 1))) :: _) := S.to (Ent.pick (Sel.there (Sel.there (Sel.there (Sel.there Sel.here)))) (Ent.pick (Sel.there (Sel.there (Sel.there (Sel.there Sel.here)))) .refl))
  have S2 := S1.to kid_in
  have S3 : Sat H (tr c (h + 1) a :: star ((A ++ b :: B).map (tr c (h + 1))) :: _) := S2.to (Ent.pick (Sel.there (Sel.there (Sel.there (Sel.there Sel.here)))) (Ent.pick Sel.here .refl))
  have S4 := S3.to kid_in
  exact tr_close (ip := ip) (ic := ic) (cp := cp) (cc := cc) (n := n) (m := m) Sat.fin
theorem snoc_out {α : Type} {F : α → HP} {A : List α} {k : α} {m : List HP} : Ent (star ((A ++ [k]).map F) :: m) (F k :: star (A.map F) :: m) := by
  have := kid_out (F := F) (A := A) (B := []) (k := k) (m := m)
  rwa [List.append_nil] at this
theorem cons_in {α : Type} {F : α → HP} {A : List α} {k : α} {m : List HP} : Ent (F k :: star (A.map F) :: m) (star ((k :: A).map F) :: m) := kid_in (F := F) (A := []) (B := A) (k := k) (m := m)
theorem cons_out {α : Type} {F : α → HP} {A : List α} {k : α} {m : List HP} : Ent (star ((k :: A).map F) :: m) (F k :: star (A.map F) :: m) := kid_out (F := F) (A := []) (B := A) (k := k) (m := m)
/-- How large things are. -/
theorem sizes {t : Tr (h + 1)} {N : Nat} (w : WF d (h + 1) t) (hn : (inL (h + 1) t).length < N) : t.xs.length < N ∧ t.ks.length ≤ t.xs.length + 1 ∧ ∀ k ∈ t.ks, (inL h k).length < N := by
  have hx := xs_len (g := inL h) w.or
  rw [inL_succ] at hn
  refine ⟨by omega, ?_, fun k hk => by have := hx.2 k hk; omega⟩
  rcases w.or with h | h
  · rw [h]; simp
  · omega
variable {s7 s10 : Nat} {s3 s4 : Int} {R : Ending → Heap → Prop} {X Y : List Itm} {y : Itm}
theorem steal_left {t : Tr (h + 1 + 1)} {a0 : List Itm} {z : Itm} (hw : WF d (h + 1 + 1) t) (hn : (inL (h + 1 + 1) t).length < 2 ^ 38) (hX : t.xs = X ++ y :: Y) (hA : t.ks = A ++ a :: b :: B) (hj : X.length = j) (hjA : A.length = j) (ha : a.xs = a0 ++ [z]) (S : Sat H (tr c (h + 1 + 1) t :: l))
    (K : ∀ (k0 w : List (Tr h)) H1, a.ks = k0 ++ w → ((w = [] ∧ a.ks = []) ∨ w.length = 1) → Sat H1 (tr c (h + 1 + 1) (mkT t.b (X ++ z :: Y) (A ++ mkT a.b a0 k0 :: mkT b.b (y :: b.xs) (w ++ b.ks) :: B)) :: l) → F82.L5 (at_ t.b) s3 s4 s7 s10 H1 R) :
    F82.L4 (at_ t.b) ((j + 1 : Nat) : Int) s3 s4 s7 s10 H R := by
  have hxl : t.xs.length = X.length + 1 + Y.length := by rw [hX]; simp; omega
  have e1 : t.ks[j]? = some a := by rw [hA, ← hjA]; simp
  have e2 : t.ks[j + 1]? = some b := by rw [hA, ← hjA, List.getElem?_append_right (by omega)]; simp
  have ex : t.xs[j]? = some y := by rw [hX, ← hj]; simp
  have ham := List.mem_of_getElem? e1
  have hbm := List.mem_of_getElem? e2
  obtain ⟨z1, z2, z3⟩ := sizes hw hn
  obtain ⟨za1, za2, _⟩ := sizes (hw.2 a ham).1 (z3 a ham)
  obtain ⟨zb1, zb2, _⟩ := sizes (hw.2 b hbm).1 (z3 b hbm)
  have hal : a.xs.length = a0.length + 1 := by rw [ha]; simp
  refine F82.L4_step ?_
  unfold F82.L4n
  rw [wsub (by omega)]
  refine gives_i S (mutChild_ok e2 S) ?_
  intro H1 _ S1
  (repeat (first | (refine Step.go ?_; intros) | refine iteB_t (by decide) ?_ | refine iteB_f (by decide) ?_ | (refine Duo.mk (by first | omega | exact rfl | decide) ?_; intros) | (refine Duo.mk (Clo.mk (by kernel_rfl)) ?_; intros)))
  refine gives_i S1 (mutChild_ok e1 S1) ?_
  intro H2 _ S2
  clear S S1
  obtain ⟨ip, ic, cp, cc, S3⟩ := two_out hA S2
  obtain ⟨ap, ac, aq, ad, S4⟩ := tr_open (t := a) (S3.to (Ent.bring (by (repeat (first | exact Sel.here | apply Sel.there)))))
  obtain ⟨bp, bc, bq, bd, S5⟩ := tr_open (t := b) (S4.to (Ent.bring (by (repeat (first | exact Sel.here | apply Sel.there)))))
  clear S2 S3 S4
  (repeat (first | (refine Step.go ?_; intros) | refine iteB_t (by decide) ?_ | refine iteB_f (by decide) ?_ | (refine Duo.mk (by first | omega | exact rfl | decide) ?_; intros) | (refine Duo.mk (Clo.mk (by kernel_rfl)) ?_; intros)))
  refine call_of (popI_ok (n := a.xs.length) (xs := a.xs) (e := z) (c := ac) (by rw [ha]; simp) (by omega) (by (refine Sat.to (by assumption) ?_; apply Ent.pick; (focus (repeat (first | exact Sel.here | apply Sel.there))); apply Ent.pick; (focus (repeat (first | exact Sel.here | apply Sel.there))); exact Ent.refl))) ?_
  rintro en H3 ⟨ap', rfl, S6⟩
  have et : a.xs.take (a.xs.length - 1) = a0 := by rw [ha]; simp
  rw [et] at S6
  have hI : HasI t.xs (j : Int) y := .nat ex
  (repeat (first | (refine Step.go ?_; intros) | refine iteB_t (by decide) ?_ | refine iteB_f (by decide) ?_ | (refine Duo.mk (by first | omega | exact rfl | decide) ?_; intros) | (refine Duo.mk (Clo.mk (by kernel_rfl)) ?_; intros)))
  rename_i S7
  refine Sat.idx (f := Itm.cells) (E := 25) (z := 2) S7 ⟨by omega, by omega, fun r o hr => ?_⟩
  subst hr
  (repeat (first | (refine Step.go ?_; intros) | refine iteB_t (by decide) ?_ | refine iteB_f (by decide) ?_ | (refine Duo.mk (by first | omega | exact rfl | decide) ?_; intros) | (refine Duo.mk (Clo.mk (by kernel_rfl)) ?_; intros)))
  refine call_of (insI_ok (i := 0) (e := y) (n := b.xs.length) (xs := b.xs) (c := bc) (by omega) (by omega) (by (refine Sat.to (by assumption) ?_; apply Ent.pick; (focus (repeat (first | exact Sel.here | apply Sel.there))); apply Ent.pick; (focus (repeat (first | exact Sel.here | apply Sel.there))); exact Ent.refl))) ?_
  rintro en H7 ⟨bp', bc', rfl, S8⟩
  (repeat (first | (refine Step.go ?_; intros) | refine iteB_t (by decide) ?_ | refine iteB_f (by decide) ?_ | (refine Duo.mk (by first | omega | exact rfl | decide) ?_; intros) | (refine Duo.mk (Clo.mk (by kernel_rfl)) ?_; intros)))
  rename_i S9
  have hI2 : HasI (t.xs.set (Int.toNat (j : Int)) ⟨z.k, y.v⟩) (j : Int) ⟨z.k, y.v⟩ := ⟨by simp only [Int.toNat_natCast]; rw [List.getElem?_set_self (by omega)]⟩
  (repeat (first | (refine Step.go ?_; intros) | refine iteB_t (by decide) ?_ | refine iteB_f (by decide) ?_ | (refine Duo.mk (by first | omega | exact rfl | decide) ?_; intros) | (refine Duo.mk (Clo.mk (by kernel_rfl)) ?_; intros)))
  rename_i H9 S10
  simp only [List.set_set, Int.toNat_natCast] at S10
  have exs : t.xs.set j ⟨z.k, z.v⟩ = X ++ z :: Y := by rw [hX, List.set_append_right _ _ (by omega), hj, Nat.sub_self]; rfl
  rw [exs] at S10
  have eps : ((t.ks.map (bk (h + 1))).map at_) = ((A ++ a :: b :: B).map (bk (h + 1))).map at_ := by rw [hA]
  have fin : ∀ (k0 w : List (Tr h)) (H11 : Heap) (aq' bq' : Option Addr) (ad' bd' : Nat) (r : Option Addr), a.ks = k0 ++ w → ((w = [] ∧ a.ks = []) ∨ w.length = 1) →
      Sat H11 (pt t.b (.cells ⟨[.slice r t.xs.length ic, .slice cp t.ks.length cc, .pointer (at_ c)]⟩ 94) :: sI r t.xs.length ic (X ++ z :: Y) :: sP cp t.ks.length cc ((t.ks.map (bk (h + 1))).map at_) ::
        pt a.b (.cells ⟨[.slice ap' (a.xs.length - 1) ac, .slice aq' k0.length ad', .pointer (at_ c)]⟩ 94) :: sI ap' (a.xs.length - 1) ac a0 :: sP aq' k0.length ad' ((k0.map (bk h)).map at_) :: star (k0.map (tr c h)) ::
        pt b.b (.cells ⟨[.slice bp' (b.xs.length + 1) bc', .slice bq' (w ++ b.ks).length bd', .pointer (at_ c)]⟩ 94) :: sI bp' (b.xs.length + 1) bc' (y :: b.xs) :: sP bq' (w ++ b.ks).length bd' (((w ++ b.ks).map (bk h)).map at_) :: star ((w ++ b.ks).map (tr c h)) :: star ((A ++ B).map (tr c (h + 1))) :: l) →
      F82.L5 (at_ t.b) s3 s4 s7 s10 H11 R := by
    intro k0 w H11 aq' bq' ad' bd' r hk hw1 T
    refine K k0 w H11 hk hw1 ?_
    have T1 : Sat H11 (tr c (h + 1) (mkT a.b a0 k0) :: pt b.b (.cells ⟨[.slice bp' (b.xs.length + 1) bc', .slice bq' (w ++ b.ks).length bd', .pointer (at_ c)]⟩ 94) :: sI bp' (b.xs.length + 1) bc' (y :: b.xs) :: sP bq' (w ++ b.ks).length bd' (((w ++ b.ks).map (bk h)).map at_) :: star ((w ++ b.ks).map (tr c h)) :: pt t.b (.cells ⟨[.slice r t.xs.length ic, .slice cp t.ks.length cc, .pointer (at_ c)]⟩ 94) :: sI r t.xs.length ic (X ++ z :: Y) :: sP cp t.ks.length cc ((t.ks.map (bk (h + 1))).map at_) :: star ((A ++ B).map (tr c (h + 1))) :: l) :=
      tr_close (ip := ap') (ic := ac) (cp := aq') (cc := ad') (n := a.xs.length - 1) (m := k0.length) Sat.fin
    have T2 : Sat H11 (tr c (h + 1) (mkT b.b (y :: b.xs) (w ++ b.ks)) :: tr c (h + 1) (mkT a.b a0 k0) :: pt t.b (.cells ⟨[.slice r t.xs.length ic, .slice cp t.ks.length cc, .pointer (at_ c)]⟩ 94) :: sI r t.xs.length ic (X ++ z :: Y) :: sP cp t.ks.length cc ((t.ks.map (bk (h + 1))).map at_) :: star ((A ++ B).map (tr c (h + 1))) :: l) :=
      tr_close (ip := bp') (ic := bc') (cp := bq') (cc := bd') (n := b.xs.length + 1) (m := (w ++ b.ks).length) Sat.fin
    refine two_in (ip := r) (ic := ic) (cp := cp) (cc := cc) (n := t.xs.length) (m := t.ks.length) (ps := (t.ks.map (bk (h + 1))).map at_) ?_ Sat.fin
    rw [hA]
    simp only [List.map_append, List.map_cons]
    rfl
  clear S6 S7 S8 S9 hI hI2
  refine iteB_i (fun h1 => ?_) (fun h1 => ?_)
  · have hne : a.ks.length ≠ 0 := by have := of_decide_eq_true h1; omega
    obtain ⟨k0, w, hk⟩ : ∃ k0 w, a.ks = k0 ++ [w] := by
      rcases List.eq_nil_or_concat a.ks with e | ⟨k0, w, e⟩
      · rw [e] at hne; simp at hne
      · exact ⟨k0, w, by rw [e, List.concat_eq_append]⟩
    have hkl : a.ks.length = k0.length + 1 := by rw [hk]; simp
    (repeat (first | (refine Step.go ?_; intros) | refine iteB_t (by decide) ?_ | refine iteB_f (by decide) ?_ | (refine Duo.mk (by first | omega | exact rfl | decide) ?_; intros) | (refine Duo.mk (Clo.mk (by kernel_rfl)) ?_; intros)))
    refine call_of (popP_ok (n := a.ks.length) (xs := (a.ks.map (bk h)).map at_) (e := at_ (bk h w)) (c := ad) (by rw [hk]; simp) (by omega) (by (refine Sat.to (by assumption) ?_; apply Ent.pick; (focus (repeat (first | exact Sel.here | apply Sel.there))); apply Ent.pick; (focus (repeat (first | exact Sel.here | apply Sel.there))); exact Ent.refl))) ?_
    rintro en H10 ⟨aq', rfl, S11⟩
    have et2 : ((a.ks.map (bk h)).map at_).take (a.ks.length - 1) = (k0.map (bk h)).map at_ := by rw [hk]; simp
    rw [et2, hkl, Nat.add_sub_cancel] at S11
    (repeat (first | (refine Step.go ?_; intros) | refine iteB_t (by decide) ?_ | refine iteB_f (by decide) ?_ | (refine Duo.mk (by first | omega | exact rfl | decide) ?_; intros) | (refine Duo.mk (Clo.mk (by kernel_rfl)) ?_; intros)))
    refine call_of (insP_ok (i := 0) (e := at_ (bk h w)) (n := b.ks.length) (xs := (b.ks.map (bk h)).map at_) (c := bd) (by omega) (by omega) (by (refine Sat.to (by assumption) ?_; apply Ent.pick; (focus (repeat (first | exact Sel.here | apply Sel.there))); apply Ent.pick; (focus (repeat (first | exact Sel.here | apply Sel.there))); exact Ent.refl))) ?_
    rintro en H11 ⟨bq', bd', rfl, S12⟩
    (repeat (first | (refine Step.go ?_; intros) | refine iteB_t (by decide) ?_ | refine iteB_f (by decide) ?_ | (refine Duo.mk (by first | omega | exact rfl | decide) ?_; intros) | (refine Duo.mk (Clo.mk (by kernel_rfl)) ?_; intros)))
    have U : Sat H11 (star (a.ks.map (tr c h)) :: _) := S12.to (Ent.bring (by (repeat (first | exact Sel.here | apply Sel.there))))
    have U2 := U.to (kid_out' (A := k0) (B := []) hk)
    rw [List.append_nil] at U2
    have U3 : Sat H11 (tr c h w :: star (b.ks.map (tr c h)) :: _) := U2.to (Ent.pick (by (repeat (first | exact Sel.here | apply Sel.there))) (Ent.pick (by (repeat (first | exact Sel.here | apply Sel.there))) .refl))
    have U4 := U3.to cons_in
    refine fin k0 [w] H11 aq' bq' ad bd' (some ⟨r, o, none⟩) hk (.inr rfl) ?_
    refine U4.to ?_
    iterate 12 (apply Ent.pick; (focus (repeat (first | exact Sel.here | apply Sel.there))))
    exact Fits.out
  · have h0 : a.ks = [] := List.eq_nil_of_length_eq_zero (by have := of_decide_eq_false h1; omega)
    refine fin [] [] H9 aq bq ad bd (some ⟨r, o, none⟩) (by rw [h0]; rfl) (.inl ⟨rfl, h0⟩) ?_
    rw [h0] at S10
    refine S10.to ?_
    iterate 12 (apply Ent.pick; (focus (repeat (first | exact Sel.here | apply Sel.there))))
    exact Fits.out
end
end Go.Proofs.Ytdgcdjlomindhaa

set_option linter.unusedVariables false
set_option linter.unusedSimpArgs false
set_option linter.unnecessarySimpa false
namespace Go.Proofs.Ytdgcdjlomindhaa
open Go Go.Den Go.Proofs
/-! A child takes from its right neighbour. -/
theorem snoc_add {α : Type} {F : α → HP} {A : List α} {k : α} {m : List HP} : Ent (F k :: star (A.map F) :: m) (star ((A ++ [k]).map F) :: m) := by
  have := kid_in (F := F) (A := A) (B := []) (k := k) (m := m)
  rwa [List.append_nil] at this
section
variable {H : Heap} {l : List HP} {c d h j : Nat} {A B : List (Tr (h + 1))} {a b : Tr (h + 1)} {s7 s10 : Nat} {s3 s4 : Int} {R : Ending → Heap → Prop} {X Y : List Itm} {y : Itm}
theorem steal_right {t : Tr (h + 1 + 1)} {b0 : List Itm} {z : Itm} (hw : WF d (h + 1 + 1) t) (hn : (inL (h + 1 + 1) t).length < 2 ^ 38) (hX : t.xs = X ++ y :: Y) (hA : t.ks = A ++ a :: b :: B) (hj : X.length = j) (hjA : A.length = j) (hb : b.xs = z :: b0) (S : Sat H (tr c (h + 1 + 1) t :: l))
    (K : ∀ (k0 w : List (Tr h)) H1, b.ks = w ++ k0 → ((w = [] ∧ b.ks = []) ∨ w.length = 1) → Sat H1 (tr c (h + 1 + 1) (mkT t.b (X ++ z :: Y) (A ++ mkT a.b (a.xs ++ [y]) (a.ks ++ w) :: mkT b.b b0 k0 :: B)) :: l) → F82.L5 (at_ t.b) s3 s4 s7 s10 H1 R) :
    F82.L3 (at_ t.b) (j : Int) s3 s4 s7 s10 H R := by
  have hxl : t.xs.length = X.length + 1 + Y.length := by rw [hX]; simp; omega
  have e1 : t.ks[j]? = some a := by rw [hA, ← hjA]; simp
  have e2 : t.ks[j + 1]? = some b := by rw [hA, ← hjA, List.getElem?_append_right (by omega)]; simp
  have ex : t.xs[j]? = some y := by rw [hX, ← hj]; simp
  have ham := List.mem_of_getElem? e1
  have hbm := List.mem_of_getElem? e2
  obtain ⟨z1, z2, z3⟩ := sizes hw hn
  obtain ⟨za1, za2, _⟩ := sizes (hw.2 a ham).1 (z3 a ham)
  obtain ⟨zb1, zb2, _⟩ := sizes (hw.2 b hbm).1 (z3 b hbm)
  have hbl : b.xs.length = b0.length + 1 := by rw [hb]; simp
  refine F82.L3_step ?_
  unfold F82.L3n
  rw [wadd (by omega)]
  refine gives_i S (mutChild_ok e1 S) ?_
  intro H1 _ S1
  (repeat (first | (refine Step.go ?_; intros) | refine iteB_t (by decide) ?_ | refine iteB_f (by decide) ?_ | (refine Duo.mk (by first | omega | exact rfl | decide) ?_; intros) | (refine Duo.mk (Clo.mk (by kernel_rfl)) ?_; intros)))
  refine gives_i S1 (mutChild_ok e2 S1) ?_
  intro H2 _ S2
  clear S S1
  obtain ⟨ip, ic, cp, cc, S3⟩ := two_out hA S2
  obtain ⟨ap, ac, aq, ad, S4⟩ := tr_open (t := a) (S3.to (Ent.bring (by (repeat (first | exact Sel.here | apply Sel.there)))))
  obtain ⟨bp, bc, bq, bd, S5⟩ := tr_open (t := b) (S4.to (Ent.bring (by (repeat (first | exact Sel.here | apply Sel.there)))))
  clear S2 S3 S4
  (repeat (first | (refine Step.go ?_; intros) | refine iteB_t (by decide) ?_ | refine iteB_f (by decide) ?_ | (refine Duo.mk (by first | omega | exact rfl | decide) ?_; intros) | (refine Duo.mk (Clo.mk (by kernel_rfl)) ?_; intros)))
  refine call_of (remI_ok (i := 0) (n := b.xs.length) (xs := b.xs) (e := z) (c := bc) (by rw [hb]; rfl) (by omega) (by (refine Sat.to (by assumption) ?_; apply Ent.pick; (focus (repeat (first | exact Sel.here | apply Sel.there))); apply Ent.pick; (focus (repeat (first | exact Sel.here | apply Sel.there))); exact Ent.refl))) ?_
  rintro en H3 ⟨bp', rfl, S6⟩
  have et : b.xs.eraseIdx 0 = b0 := by rw [hb]; rfl
  rw [et] at S6
  have hI : HasI t.xs (j : Int) y := .nat ex
  (repeat (first | (refine Step.go ?_; intros) | refine iteB_t (by decide) ?_ | refine iteB_f (by decide) ?_ | (refine Duo.mk (by first | omega | exact rfl | decide) ?_; intros) | (refine Duo.mk (Clo.mk (by kernel_rfl)) ?_; intros)))
  rename_i S7
  refine Sat.idx (f := Itm.cells) (E := 25) (z := 2) S7 ⟨by omega, by omega, fun r o hr => ?_⟩
  subst hr
  (repeat (first | (refine Step.go ?_; intros) | refine iteB_t (by decide) ?_ | refine iteB_f (by decide) ?_ | (refine Duo.mk (by first | omega | exact rfl | decide) ?_; intros) | (refine Duo.mk (Clo.mk (by kernel_rfl)) ?_; intros)))
  rename_i ap' ac' H7b S7b H8 S8 H9a S9
  have hI2 : HasI (t.xs.set (Int.toNat (j : Int)) ⟨z.k, y.v⟩) (j : Int) ⟨z.k, y.v⟩ := ⟨by simp only [Int.toNat_natCast]; rw [List.getElem?_set_self (by omega)]⟩
  (repeat (first | (refine Step.go ?_; intros) | refine iteB_t (by decide) ?_ | refine iteB_f (by decide) ?_ | (refine Duo.mk (by first | omega | exact rfl | decide) ?_; intros) | (refine Duo.mk (Clo.mk (by kernel_rfl)) ?_; intros)))
  rename_i H9 S10
  simp only [List.set_set, Int.toNat_natCast] at S10
  have exs : t.xs.set j ⟨z.k, z.v⟩ = X ++ z :: Y := by rw [hX, List.set_append_right _ _ (by omega), hj, Nat.sub_self]; rfl
  rw [exs] at S10
  clear S5 S6 S7 S7b S8 S9 hI hI2
  have fin : ∀ (k0 w : List (Tr h)) (H11 : Heap) (aq' bq' : Option Addr) (ad' bd' : Nat), b.ks = w ++ k0 → ((w = [] ∧ b.ks = []) ∨ w.length = 1) →
      Sat H11 (pt t.b (.cells ⟨[.slice (some ⟨r, o, none⟩) t.xs.length ic, .slice cp t.ks.length cc, .pointer (at_ c)]⟩ 94) :: sI (some ⟨r, o, none⟩) t.xs.length ic (X ++ z :: Y) :: sP cp t.ks.length cc ((t.ks.map (bk (h + 1))).map at_) ::
        pt a.b (.cells ⟨[.slice ap' (a.xs.length + 1) ac', .slice aq' (a.ks ++ w).length ad', .pointer (at_ c)]⟩ 94) :: sI ap' (a.xs.length + 1) ac' (a.xs ++ [y]) :: sP aq' (a.ks ++ w).length ad' (((a.ks ++ w).map (bk h)).map at_) :: star ((a.ks ++ w).map (tr c h)) ::
        pt b.b (.cells ⟨[.slice bp' (b.xs.length - 1) bc, .slice bq' k0.length bd', .pointer (at_ c)]⟩ 94) :: sI bp' (b.xs.length - 1) bc b0 :: sP bq' k0.length bd' ((k0.map (bk h)).map at_) :: star (k0.map (tr c h)) :: star ((A ++ B).map (tr c (h + 1))) :: l) →
      F82.L5 (at_ t.b) s3 s4 s7 s10 H11 R := by
    intro k0 w H11 aq' bq' ad' bd' hk hw1 T
    refine K k0 w H11 hk hw1 ?_
    have T1 : Sat H11 (tr c (h + 1) (mkT a.b (a.xs ++ [y]) (a.ks ++ w)) :: pt b.b (.cells ⟨[.slice bp' (b.xs.length - 1) bc, .slice bq' k0.length bd', .pointer (at_ c)]⟩ 94) :: sI bp' (b.xs.length - 1) bc b0 :: sP bq' k0.length bd' ((k0.map (bk h)).map at_) :: star (k0.map (tr c h)) :: pt t.b (.cells ⟨[.slice (some ⟨r, o, none⟩) t.xs.length ic, .slice cp t.ks.length cc, .pointer (at_ c)]⟩ 94) :: sI (some ⟨r, o, none⟩) t.xs.length ic (X ++ z :: Y) :: sP cp t.ks.length cc ((t.ks.map (bk (h + 1))).map at_) :: star ((A ++ B).map (tr c (h + 1))) :: l) :=
      tr_close (ip := ap') (ic := ac') (cp := aq') (cc := ad') (n := a.xs.length + 1) (m := (a.ks ++ w).length) Sat.fin
    have T2 : Sat H11 (tr c (h + 1) (mkT b.b b0 k0) :: tr c (h + 1) (mkT a.b (a.xs ++ [y]) (a.ks ++ w)) :: pt t.b (.cells ⟨[.slice (some ⟨r, o, none⟩) t.xs.length ic, .slice cp t.ks.length cc, .pointer (at_ c)]⟩ 94) :: sI (some ⟨r, o, none⟩) t.xs.length ic (X ++ z :: Y) :: sP cp t.ks.length cc ((t.ks.map (bk (h + 1))).map at_) :: star ((A ++ B).map (tr c (h + 1))) :: l) :=
      tr_close (ip := bp') (ic := bc) (cp := bq') (cc := bd') (n := b.xs.length - 1) (m := k0.length) Sat.fin
    refine two_in (ip := some ⟨r, o, none⟩) (ic := ic) (cp := cp) (cc := cc) (n := t.xs.length) (m := t.ks.length) (ps := (t.ks.map (bk (h + 1))).map at_) ?_ Sat.fin
    rw [hA]
    simp only [List.map_append, List.map_cons]
    rfl
  refine iteB_i (fun h1 => ?_) (fun h1 => ?_)
  · have hne : b.ks.length ≠ 0 := by have := of_decide_eq_true h1; omega
    obtain ⟨w, k0, hk⟩ : ∃ w k0, b.ks = w :: k0 := by
      cases e : b.ks with
      | nil => rw [e] at hne; simp at hne
      | cons w k0 => exact ⟨w, k0, rfl⟩
    have hkl : b.ks.length = k0.length + 1 := by rw [hk]; simp
    have he : ((b.ks.map (bk h)).map at_)[0]? = some (at_ (bk h w)) := by rw [hk]; rfl
    have et2 : ((b.ks.map (bk h)).map at_).eraseIdx 0 = (k0.map (bk h)).map at_ := by rw [hk]; rfl
    refine And.intro ?_ ?_
    all_goals
      (repeat (first | (refine Step.go ?_; intros) | refine iteB_t (by decide) ?_ | refine iteB_f (by decide) ?_ | (refine Duo.mk (by first | omega | exact rfl | decide) ?_; intros) | (refine Duo.mk (Clo.mk (by kernel_rfl)) ?_; intros)))
      refine call_of (remP_ok (i := 0) (n := b.ks.length) (xs := (b.ks.map (bk h)).map at_) (e := at_ (bk h w)) (c := bd) he (by omega) (by (refine Sat.to (by assumption) ?_; apply Ent.pick; (focus (repeat (first | exact Sel.here | apply Sel.there))); apply Ent.pick; (focus (repeat (first | exact Sel.here | apply Sel.there))); exact Ent.refl))) ?_
      rintro en H12 ⟨bq', rfl, S11⟩
      rw [et2, hkl, Nat.add_sub_cancel] at S11
      (repeat (first | (refine Step.go ?_; intros) | refine iteB_t (by decide) ?_ | refine iteB_f (by decide) ?_ | (refine Duo.mk (by first | omega | exact rfl | decide) ?_; intros) | (refine Duo.mk (Clo.mk (by kernel_rfl)) ?_; intros)))
      rename_i aq' ad' _ _ H15 S15
      have eP : (a.ks.map (bk h)).map at_ ++ [at_ (bk h w)] = ((a.ks ++ [w]).map (bk h)).map at_ := by simp
      have eL : a.ks.length + 1 = (a.ks ++ [w]).length := by simp
      rw [eP, eL] at S15
      have U : Sat H15 (star (b.ks.map (tr c h)) :: _) := S15.to (Ent.bring (by (repeat (first | exact Sel.here | apply Sel.there))))
      have U2 := U.to (kid_out' (A := []) (B := k0) hk)
      rw [List.nil_append] at U2
      have U3 : Sat H15 (tr c h w :: star (a.ks.map (tr c h)) :: _) := U2.to (Ent.pick (by (repeat (first | exact Sel.here | apply Sel.there))) (Ent.pick (by (repeat (first | exact Sel.here | apply Sel.there))) .refl))
      have U4 := U3.to snoc_add
      refine fin k0 [w] H15 aq' bq' ad' bd hk (.inr rfl) ?_
      refine U4.to ?_
      iterate 12 (apply Ent.pick; (focus (repeat (first | exact Sel.here | apply Sel.there))))
      exact Fits.out
  · have h0 : b.ks = [] := List.eq_nil_of_length_eq_zero (by have := of_decide_eq_false h1; omega)
    refine fin [] [] H9 aq bq ad bd (by rw [h0]; rfl) (.inl ⟨rfl, h0⟩) ?_
    rw [h0] at S10
    rw [List.append_nil]
    refine S10.to ?_
    iterate 12 (apply Ent.pick; (focus (repeat (first | exact Sel.here | apply Sel.there))))
    exact Fits.out
end
end Go.Proofs.Ytdgcdjlomindhaa

set_option linter.unusedVariables false
set_option linter.unusedSimpArgs false
set_option linter.unnecessarySimpa false
namespace Go.Proofs.Ytdgcdjlomindhaa
open Go Go.Den Go.Proofs
/-! Two children become one. -/
section
variable {H : Heap} {l : List HP} {c d f h j : Nat} {A B : List (Tr (h + 1))} {a b : Tr (h + 1)} {s7 s10 : Nat} {s3 s4 : Int} {R : Ending → Heap → Prop} {X Y : List Itm} {y : Itm}
theorem merge_two {t : Tr (h + 1 + 1)} (hw : WF d (h + 1 + 1) t) (hn : (inL (h + 1 + 1) t).length < 2 ^ 38) (hX : t.xs = X ++ y :: Y) (hA : t.ks = A ++ a :: b :: B) (hj : X.length = j) (hjA : A.length = j) (S : Sat H (tr c (h + 1 + 1) t :: cx c f :: l))
    (K : ∀ H1, Sat H1 (tr c (h + 1 + 1) (mkT t.b (X ++ Y) (A ++ mkT a.b (a.xs ++ y :: b.xs) (a.ks ++ b.ks) :: B)) :: cx c f :: l) → F82.L5 (at_ t.b) s3 s4 s7 s10 H1 R) :
    F82.L2 (at_ t.b) (j : Int) s3 s4 s7 s10 H R := by
  have hxl : t.xs.length = X.length + 1 + Y.length := by rw [hX]; simp; omega
  have e1 : t.ks[j]? = some a := by rw [hA, ← hjA]; simp
  have e2 : t.ks[j + 1]? = some b := by rw [hA, ← hjA, List.getElem?_append_right (by omega)]; simp
  have ex : t.xs[j]? = some y := by rw [hX, ← hj]; simp
  have ham := List.mem_of_getElem? e1
  have hbm := List.mem_of_getElem? e2
  obtain ⟨z1, z2, z3⟩ := sizes hw hn
  obtain ⟨za1, za2, _⟩ := sizes (hw.2 a ham).1 (z3 a ham)
  obtain ⟨zb1, zb2, _⟩ := sizes (hw.2 b hbm).1 (z3 b hbm)
  refine F82.L2_step ?_
  unfold F82.L2n
  rw [wadd (by omega)]
  refine gives_i S (mutChild_ok e1 S) ?_
  intro H1 _ S1
  clear S
  obtain ⟨ip, ic, cp, cc, S3⟩ := two_out hA S1
  obtain ⟨ap, ac, aq, ad, S4⟩ := tr_open (t := a) (S3.to (Ent.bring (by (repeat (first | exact Sel.here | apply Sel.there)))))
  obtain ⟨bp, bc, bq, bd, S5⟩ := tr_open (t := b) (S4.to (Ent.bring (by (repeat (first | exact Sel.here | apply Sel.there)))))
  clear S1 S3 S4
  (repeat (first | (refine Step.go ?_; intros) | refine iteB_t (by decide) ?_ | refine iteB_f (by decide) ?_ | (refine Duo.mk (by first | omega | exact rfl | decide) ?_; intros) | (refine Duo.mk (Clo.mk (by kernel_rfl)) ?_; intros)))
  refine call_of (remI_ok (i := j) (n := t.xs.length) (xs := t.xs) (e := y) (c := ic) ex (by omega) (by (refine Sat.to (by assumption) ?_; apply Ent.pick; (focus (repeat (first | exact Sel.here | apply Sel.there))); apply Ent.pick; (focus (repeat (first | exact Sel.here | apply Sel.there))); exact Ent.refl))) ?_
  rintro en H3 ⟨ip', rfl, S6⟩
  have exs : t.xs.eraseIdx j = X ++ Y := by rw [hX, List.eraseIdx_append_of_length_le (by omega), hj, Nat.sub_self]; rfl
  rw [exs] at S6
  (repeat (first | (refine Step.go ?_; intros) | refine iteB_t (by decide) ?_ | refine iteB_f (by decide) ?_ | (refine Duo.mk (by first | omega | exact rfl | decide) ?_; intros) | (refine Duo.mk (Clo.mk (by kernel_rfl)) ?_; intros)))
  have ep1 : ((t.ks.map (bk (h + 1))).map at_)[j + 1]? = some (at_ b.b) := by simp [e2]; rfl
  refine call_of (remP_ok (i := j + 1) (n := t.ks.length) (xs := (t.ks.map (bk (h + 1))).map at_) (e := at_ b.b) (c := cc) ep1 (by omega) (by (refine Sat.to (by assumption) ?_; apply Ent.pick; (focus (repeat (first | exact Sel.here | apply Sel.there))); apply Ent.pick; (focus (repeat (first | exact Sel.here | apply Sel.there))); exact Ent.refl))) ?_
  rintro en H6 ⟨cp', rfl, S7⟩
  have ek : t.ks.eraseIdx (j + 1) = A ++ a :: B := by rw [hA, List.eraseIdx_append_of_length_le (by omega), hjA, Nat.add_sub_cancel_left]; rfl
  have epp : ((t.ks.map (bk (h + 1))).map at_).eraseIdx (j + 1) = ((A ++ mkT a.b (a.xs ++ y :: b.xs) (a.ks ++ b.ks) :: B).map (bk (h + 1))).map at_ := by
    rw [← map_erase, ← map_erase, ek]
    simp only [List.map_append, List.map_cons]
    rfl
  rw [epp] at S7
  (repeat (first | (refine Step.go ?_; intros) | refine iteB_t (by decide) ?_ | refine iteB_f (by decide) ?_ | (refine Duo.mk (by first | omega | exact rfl | decide) ?_; intros) | (refine Duo.mk (Clo.mk (by kernel_rfl)) ?_; intros)))
  rename_i ap' ac' H8 S8 H9 S9
  have T1 := Sat.bring S9 (c := sI ap' (a.xs.length + 1) ac' (a.xs ++ [⟨y.k, y.v⟩])) (by (repeat (first | exact Sel.here | apply Sel.there)))
  have hq := RowsAt.cells (f := Itm.cells) (z := 2) (q := bp) (ys := b.xs) (Sat.rowsAt (E := 25) (n := b.xs.length) (k := bc) S9 (by
    repeat (first | exact List.Mem.head _ | apply List.Mem.tail))) (fun y => rfl)
  refine T1.slApp (ys := b.xs) hq rfl (fun y _ => rfl) itm_isC rfl (by decide) (by omega) ?_
  intro ap2 ac2 H10 T2
  (repeat (first | (refine Step.go ?_; intros) | refine iteB_t (by decide) ?_ | refine iteB_f (by decide) ?_ | (refine Duo.mk (by first | omega | exact rfl | decide) ?_; intros) | (refine Duo.mk (Clo.mk (by kernel_rfl)) ?_; intros)))
  rename_i H11 T3
  have T4 := Sat.bring T3 (c := sP aq a.ks.length ad ((a.ks.map (bk h)).map at_)) (by (repeat (first | exact Sel.here | apply Sel.there)))
  have hq2 := RowsAt.cells (f := ptC) (z := 1) (q := bq) (ys := (b.ks.map (bk h)).map at_) (Sat.rowsAt (E := 74) (n := b.ks.length) (k := bd) T3 (by
    repeat (first | exact List.Mem.head _ | apply List.Mem.tail))) (fun y => rfl)
  refine T4.slApp (ys := (b.ks.map (bk h)).map at_) hq2 (by simp) (fun y _ => rfl) ptr_isC rfl (by decide) (by omega) ?_
  intro aq2 ad2 H12 T5
  (repeat (first | (refine Step.go ?_; intros) | refine iteB_t (by decide) ?_ | refine iteB_f (by decide) ?_ | (refine Duo.mk (by first | omega | exact rfl | decide) ?_; intros) | (refine Duo.mk (Clo.mk (by kernel_rfl)) ?_; intros)))
  rename_i H13 T6
  have T7 : Sat H13 (nd b.b (at_ c) b.xs (b.ks.map (bk h)) :: _) := nd_close (ip := bp) (ic := bc) (cp := bq) (cc := bd) (n := b.xs.length) (m := b.ks.length) (T6.to (Ent.pick (by (repeat (first | exact Sel.here | apply Sel.there))) (Ent.pick (by (repeat (first | exact Sel.here | apply Sel.there))) (Ent.pick (by (repeat (first | exact Sel.here | apply Sel.there))) .refl))))
  refine call_of (cfree_ok (c := c) (f := f) (b := b.b) (xs := b.xs) (ks := b.ks.map (bk h)) (by omega) (by simp; omega) (by (refine Sat.to (by assumption) ?_; apply Ent.pick; (focus (repeat (first | exact Sel.here | apply Sel.there))); apply Ent.pick; (focus (repeat (first | exact Sel.here | apply Sel.there))); exact Ent.refl))) ?_
  rintro en H14 ⟨k14, rfl, T8⟩
  (repeat (first | (refine Step.go ?_; intros) | refine iteB_t (by decide) ?_ | refine iteB_f (by decide) ?_ | (refine Duo.mk (by first | omega | exact rfl | decide) ?_; intros) | (refine Duo.mk (Clo.mk (by kernel_rfl)) ?_; intros)))
  have U : Sat H14 (star (a.ks.map (tr c h)) :: star (b.ks.map (tr c h)) :: _) := T8.to (Ent.pick (by (repeat (first | exact Sel.here | apply Sel.there))) (Ent.pick (by (repeat (first | exact Sel.here | apply Sel.there))) .refl))
  have U2 := U.to appStar
  rw [← List.map_append] at U2
  have eX : (a.xs ++ [(⟨y.k, y.v⟩ : Itm)]) ++ b.xs = a.xs ++ y :: b.xs := by simp
  have eK : (a.ks.map (bk h)).map at_ ++ (b.ks.map (bk h)).map at_ = ((a.ks ++ b.ks).map (bk h)).map at_ := by simp
  rw [eX, eK] at U2
  refine K H14 ?_
  have V1 : Sat H14 (tr c (h + 1) (mkT a.b (a.xs ++ y :: b.xs) (a.ks ++ b.ks)) :: star ((A ++ B).map (tr c (h + 1))) :: pt t.b (.cells ⟨[.slice ip' (t.xs.length - 1) ic, .slice cp' (t.ks.length - 1) cc, .pointer (at_ c)]⟩ 94) :: sI ip' (t.xs.length - 1) ic (X ++ Y) :: sP cp' (t.ks.length - 1) cc (((A ++ mkT a.b (a.xs ++ y :: b.xs) (a.ks ++ b.ks) :: B).map (bk (h + 1))).map at_) :: cx c f :: l) :=
    tr_close (ip := ap2) (ic := ac2) (cp := aq2) (cc := ad2) (n := a.xs.length + 1 + b.xs.length) (m := a.ks.length + b.ks.length) (by
      refine U2.to ?_
      iterate 9 (apply Ent.pick; (focus (repeat (first | exact Sel.here | apply Sel.there))))
      exact Fits.out)
  have V2 := V1.to kid_in
  exact tr_close (ip := ip') (ic := ic) (cp := cp') (cc := cc) (n := t.xs.length - 1) (m := t.ks.length - 1) (by
      refine V2.to ?_
      iterate 5 (apply Ent.pick; (focus (repeat (first | exact Sel.here | apply Sel.there))))
      exact Fits.out)
end
end Go.Proofs.Ytdgcdjlomindhaa

set_option linter.unusedVariables false
set_option linter.unusedSimpArgs false
set_option linter.unnecessarySimpa false
namespace Go.Proofs.Ytdgcdjlomindhaa
open Go Go.Den Go.Proofs
/-! What is taken out of a child that has enough. -/
theorem remR_kid {typ : Int} {xs P K Q : List Itm} {k : Int} {i : Nat} (ht : (typ = 0 ∧ (∀ a ∈ P, a.k < k) ∧ ∀ a ∈ Q, k < a.k) ∨ (typ = 2 ∧ Q = [] ∧ K ≠ [])) : remR typ (P ++ (K ++ Q)) k = ((remR typ K k).1, P ++ ((remR typ K k).2 ++ Q)) := by
  rcases ht with ⟨rfl, h1, h2⟩ | ⟨rfl, rfl, h2⟩
  · unfold remR
    simp only [if_pos]
    rw [get_app h1, get_front h2, del_app, del_app, del_lt h1, del_gt h2]
  · unfold remR
    rw [if_neg (by decide), if_neg (by decide)]
    obtain ⟨x, hx⟩ : ∃ x, K.getLast? = some x := by
      cases e : K.getLast? with
      | none => exact absurd (List.getLast?_eq_none_iff.1 e) h2
      | some x => exact ⟨x, rfl⟩
    rw [List.append_nil, List.append_nil, List.getLast?_append, hx, List.dropLast_append_of_ne_nil h2]
    rfl
theorem remR_hit {P K Q : List Itm} {y : Itm} {k : Int} (hs : Srt (P ++ (K ++ y :: Q))) (hk : y.k = k) : remR 0 (P ++ (K ++ y :: Q)) k = (some y, P ++ (K ++ Q)) := by
  rw [← List.append_assoc] at hs
  obtain ⟨h1, h2⟩ := hs.item
  unfold remR
  simp only [if_pos]
  rw [← List.append_assoc, get_app (by rw [← hk]; exact h1), get_hit hk.symm, del_app, del_lt (by rw [← hk]; exact h1), del_hit hk, del_gt (by rw [← hk]; exact h2), List.append_assoc]
/-- What a call gives back that takes something out. -/
def RemPost (d c f : Nat) (typ : Int) (e : Itm) (h : Nat) (t : Tr (h + 1)) (l : List HP) (en : Ending) (H1 : Heap) : Prop :=
  ∃ t' : Tr (h + 1), en = .returned (.tuple ⟨[.agg ⟨((remR typ (inL (h + 1) t) e.k).1.getD ⟨0, 0⟩).cells⟩, .bool (remR typ (inL (h + 1) t) e.k).1.isSome]⟩) ∧ t'.b = t.b ∧ WF d (h + 1) t' ∧ t.xs.length ≤ t'.xs.length + 1 ∧ inL (h + 1) t' = (remR typ (inL (h + 1) t) e.k).2 ∧ Sat H1 (tr c (h + 1) t' :: cx c f :: l)
section
variable {c f d : Nat} {e : Itm} {typ : Int}
theorem rem_big {h : Nat} {t : Tr (h + 1 + 1)} {i s5 s8 : Nat} {found : Bool} {k : Tr (h + 1)} {H : Heap} {l : List HP} {R : Ending → Heap → Prop} (hd : 2 ≤ d) (hd2 : d < 2 ^ 20) (hw : WF d (h + 1 + 1) t) (hs : Srt (inL (h + 1 + 1) t)) (hn : (inL (h + 1 + 1) t).length < 2 ^ 38) (ha : At_ typ t.xs e.k i found) (hk : t.ks[i]? = some k) (hbig : d ≤ k.xs.length)
    (ih : ∀ (k : Tr (h + 1)) (e : Itm) (typ : Int), (typ = 0 ∨ typ = 2) → WF d (h + 1) k → Srt (inL (h + 1) k) → (inL (h + 1) k).length < 2 ^ 38 → 1 ≤ k.xs.length → ∀ (H : Heap) (l : List HP), Sat H (tr c (h + 1) k :: cx c f :: l) → CallsH Try.prog 69 ⟨[.pointer (at_ k.b), .agg ⟨e.cells⟩, .int .i64 ((d - 1 : Nat) : Int), .int .i64 typ]⟩ H (RemPost d c f typ e h k l))
    (S : Sat H (tr c (h + 1 + 1) t :: cx c f :: pt s5 (.cells ⟨e.cells⟩ 25) :: pt s8 (.cells ⟨[.int .i64 0, .int .i64 0]⟩ 25) :: l))
    (K : ∀ (t' : Tr (h + 1 + 1)) H1, t'.b = t.b → WF d (h + 1 + 1) t' → t'.xs.length = t.xs.length → inL (h + 1 + 1) t' = (remR typ (inL (h + 1 + 1) t) e.k).2 → Sat H1 (tr c (h + 1 + 1) t' :: cx c f :: l) →
      R (.returned (.tuple ⟨[.agg ⟨((remR typ (inL (h + 1 + 1) t) e.k).1.getD ⟨0, 0⟩).cells⟩, .bool (remR typ (inL (h + 1 + 1) t) e.k).1.isSome]⟩)) H1) :
    F69.L0 (at_ t.b) ((d - 1 : Nat) : Int) typ s5 s8 (i : Int) found H R := by
  have hxl := xs_len (g := inL (h + 1)) hw.or
  have h0 : t.ks.length = t.xs.length + 1 := hw.1 (Nat.succ_pos h)
  have hle : i ≤ t.xs.length := by rcases ha with ⟨_, h⟩ | ⟨_, h, _⟩; exact h.le; omega
  have hkm := List.mem_of_getElem? hk
  have hkw := hw.2 k hkm
  rw [inL_succ] at hs hn
  obtain ⟨q, e1, e2, e3⟩ := inter_at (g := inL (h + 1)) h0 hle
  rw [hk] at e2
  cases e2
  have e4 := e3 (t.ks.take i) (t.ks.drop (i + 1)) k (by simp; omega) (by simp; omega)
  rw [← e1] at e4
  have hsk : Srt (inL (h + 1) k) := by rw [e4] at hs; exact hs.right.left
  have hnk := hxl.2 k hkm
  have hne : inL (h + 1) k ≠ [] := inL_ne hd hkw.1 hkw.2
  obtain ⟨ip, ic, cp, cc, S0⟩ := tr_open S
  have S2 : Sat H (star (t.ks.map (tr c (h + 1))) :: _) := S0.to (Ent.bring (by (repeat (first | exact Sel.here | apply Sel.there))))
  have S3 := S2.to (kid_out' e1)
  obtain ⟨jp, jc, dp, dc, S4⟩ := tr_open S3
  have hI : HasI ((t.ks.map (bk (h + 1))).map at_) (i : Int) (at_ k.b) := .nat (by simp [hk]; rfl)
  have ebk : ∀ k' : Tr (h + 1), k'.b = k.b → (t.ks.take i ++ k' :: t.ks.drop (i + 1)).map (bk (h + 1)) = t.ks.map (bk (h + 1)) := by
    intro k' hb
    conv => rhs; rw [e1]
    rw [List.map_append, List.map_append, List.map_cons, List.map_cons]
    congr 2
  have wfk : ∀ (k' : Tr (h + 1)) (xs' : List Itm), WF d (h + 1) k' → k.xs.length ≤ k'.xs.length + 1 → xs'.length = t.xs.length → WF d (h + 1 + 1) (mkT t.b xs' (t.ks.take i ++ k' :: t.ks.drop (i + 1))) := by
    intro k' xs' hw' hl' hx'
    refine ⟨fun _ => ?_, fun q hq => ?_⟩
    · show (t.ks.take i ++ k' :: t.ks.drop (i + 1)).length = xs'.length + 1
      simp only [List.length_append, List.length_cons, List.length_take, List.length_drop]
      omega
    · have hq : q ∈ t.ks.take i ++ k' :: t.ks.drop (i + 1) := hq
      rcases List.mem_append.1 hq with hq | hq
      · exact hw.2 q (List.mem_of_mem_take hq)
      · rcases List.mem_cons.1 hq with rfl | hq
        · refine ⟨hw', ?_⟩
          show d ≤ q.xs.length + 1
          omega
        · exact hw.2 q (List.mem_of_mem_drop hq)
  refine F69.L0_step ?_
  unfold F69.L0n
  (repeat (first | (refine Step.go ?_; intros) | refine iteB_t (by decide) ?_ | refine iteB_f (by decide) ?_ | (refine Duo.mk (by first | omega | exact rfl | decide) ?_; intros) | (refine Duo.mk (Clo.mk (by kernel_rfl)) ?_; intros)))
  refine Sat.idx (f := ptC) (E := 74) (z := 1) S0 ⟨by omega, by omega, fun kr ko hr => ?_⟩
  subst hr
  (repeat (first | (refine Step.go ?_; intros) | refine iteB_t (by decide) ?_ | refine iteB_f (by decide) ?_ | (refine Duo.mk (by first | omega | exact rfl | decide) ?_; intros) | (refine Duo.mk (Clo.mk (by kernel_rfl)) ?_; intros)))
  refine iteB_f (by simp; omega) ?_
  refine gives_i S3 (mutChild_ok hk S) ?_
  intro H1 _ S5
  clear S S0 S2 S4 hI
  (repeat (first | (refine Step.go ?_; intros) | refine iteB_t (by decide) ?_ | refine iteB_f (by decide) ?_ | (refine Duo.mk (by first | omega | exact rfl | decide) ?_; intros) | (refine Duo.mk (Clo.mk (by kernel_rfl)) ?_; intros)))
  refine iteB_i (fun h1 => ?_) (fun h1 => ?_)
  · subst h1
    obtain ⟨rfl, hf⟩ : typ = 0 ∧ FindAt t.xs e.k i true := by
      rcases ha with h | ⟨_, _, h⟩
      · exact h
      · cases h
    obtain ⟨y, hy, hyk⟩ := hf.hit rfl
    have hil := lt_of hy
    have hIy : HasI t.xs (i : Int) y := .nat hy
    obtain ⟨K0, z, hK⟩ : ∃ K0 z, inL (h + 1) k = K0 ++ [z] := by
      rcases List.eq_nil_or_concat (inL (h + 1) k) with e | ⟨K0, z, e⟩
      · exact absurd e hne
      · exact ⟨K0, z, by rw [e, List.concat_eq_append]⟩
    obtain ⟨y', ex1, ex2, ex3⟩ := cut_at' (l := t.xs) (i := i) hil
    rw [hy] at ex2
    cases ex2
    obtain ⟨q2, rest, eq2⟩ : ∃ q2 rest, t.ks.drop (i + 1) = q2 :: rest := by
      cases h : t.ks.drop (i + 1) with
      | nil => have := congrArg List.length h; simp at this; omega
      | cons a b => exact ⟨a, b, rfl⟩
    have law : ∀ (z' : Itm) (k' : Tr (h + 1)), inter (t.xs.set i z') ((t.ks.take i ++ k' :: t.ks.drop (i + 1)).map (inL (h + 1))) = preL (t.xs.take i) ((t.ks.take i).map (inL (h + 1))) ++ (inL (h + 1) k' ++ z' :: (inL (h + 1) q2 ++ postL (t.xs.drop (i + 1)) (rest.map (inL (h + 1))))) := by
      intro z' k'
      have := inter_split (xs1 := t.xs.take i) (xs2 := z' :: t.xs.drop (i + 1)) (k := inL (h + 1) k') (ks1 := (t.ks.take i).map (inL (h + 1))) (ks2 := (t.ks.drop (i + 1)).map (inL (h + 1))) (by simp; omega)
      rw [List.set_eq_take_append_cons_drop, if_pos hil, List.map_append, List.map_cons, this, eq2]
      rfl
    have law0 : inL (h + 1 + 1) t = preL (t.xs.take i) ((t.ks.take i).map (inL (h + 1))) ++ (inL (h + 1) k ++ y :: (inL (h + 1) q2 ++ postL (t.xs.drop (i + 1)) (rest.map (inL (h + 1))))) := by
      have := law y k
      rw [set_same hy, ← e1] at this
      exact this
    have hs0 : Srt (inL (h + 1 + 1) t) := hs
    rw [law0] at hs0
    have hR := remR_hit hs0 hyk
    rw [← law0] at hR
    rw [hR] at K
    (repeat (first | (refine Step.go ?_; intros) | refine iteB_t (by decide) ?_ | refine iteB_f (by decide) ?_ | (refine Duo.mk (by first | omega | exact rfl | decide) ?_; intros) | (refine Duo.mk (Clo.mk (by kernel_rfl)) ?_; intros)))
    refine Sat.idx (f := Itm.cells) (E := 25) (z := 2) S5 ⟨by omega, by omega, fun r o hr => ?_⟩
    subst hr
    (repeat (first | (refine Step.go ?_; intros) | refine iteB_t (by decide) ?_ | refine iteB_f (by decide) ?_ | (refine Duo.mk (by first | omega | exact rfl | decide) ?_; intros) | (refine Duo.mk (Clo.mk (by kernel_rfl)) ?_; intros)))
    rename_i S8
    refine And.intro ?_ ?_
    all_goals
      (repeat (first | (refine Step.go ?_; intros) | refine iteB_t (by decide) ?_ | refine iteB_f (by decide) ?_ | (refine Duo.mk (by first | omega | exact rfl | decide) ?_; intros) | (refine Duo.mk (Clo.mk (by kernel_rfl)) ?_; intros)))
      have Sx := ‹Sat _ _›
      refine call_of (ih k ⟨0, 0⟩ 2 (.inr rfl) hkw.1 hsk (by omega) (by omega) _ _ (by (refine Sat.to (by assumption) ?_; apply Ent.pick; (focus (repeat (first | exact Sel.here | apply Sel.there))); apply Ent.pick; (focus (repeat (first | exact Sel.here | apply Sel.there))); exact Ent.refl))) ?_
      rintro en H9 ⟨k', rfl, hb, hw', hl', hp, S9⟩
      have hrem : remR 2 (inL (h + 1) k) (0 : Int) = (some z, K0) := by
        unfold remR
        rw [if_neg (by decide), hK]
        simp
      have hrem' : remR 2 (inL (h + 1) k) ((⟨0, 0⟩ : Itm).k) = (some z, K0) := hrem
      rw [hrem'] at hp ⊢
      simp only [Option.getD_some] at hp ⊢
      (repeat (first | (refine Step.go ?_; intros) | refine iteB_t (by decide) ?_ | refine iteB_f (by decide) ?_ | (refine Duo.mk (by first | omega | exact rfl | decide) ?_; intros) | (refine Duo.mk (Clo.mk (by kernel_rfl)) ?_; intros)))
      rename_i S10
      have hI2 : HasI (t.xs.set (Int.toNat (i : Int)) ⟨z.k, y.v⟩) (i : Int) ⟨z.k, y.v⟩ := ⟨by simp only [Int.toNat_natCast]; rw [List.getElem?_set_self (by omega)]⟩
      (repeat (first | (refine Step.go ?_; intros) | refine iteB_t (by decide) ?_ | refine iteB_f (by decide) ?_ | (refine Duo.mk (by first | omega | exact rfl | decide) ?_; intros) | (refine Duo.mk (Clo.mk (by kernel_rfl)) ?_; intros)))
      rename_i H12 S12
      simp only [List.set_set, Int.toNat_natCast] at S12
      have T1 : Sat H12 (tr c (h + 1) k' :: star ((t.ks.take i ++ t.ks.drop (i + 1)).map (tr c (h + 1))) :: _) := S12.to (Ent.pick (by (repeat (first | exact Sel.here | apply Sel.there))) (Ent.pick (by (repeat (first | exact Sel.here | apply Sel.there))) .refl))
      have T2 := T1.to kid_in
      refine K (mkT t.b (t.xs.set i z) (t.ks.take i ++ k' :: t.ks.drop (i + 1))) H12 rfl (wfk k' _ hw' hl' (List.length_set ..)) (List.length_set ..) ?_ ?_
      · have a1 : inL (h + 1 + 1) (mkT t.b (t.xs.set i z) (t.ks.take i ++ k' :: t.ks.drop (i + 1))) = _ := law z k'
        rw [a1, hp, hK]
        simp
      · have T3 : Sat H12 (pt t.b (.cells ⟨[.slice (some ⟨r, o, none⟩) t.xs.length ic, .slice (some ⟨kr, ko, none⟩) t.ks.length cc, .pointer (at_ c)]⟩ 94) :: sI (some ⟨r, o, none⟩) t.xs.length ic (t.xs.set i z) :: sP (some ⟨kr, ko, none⟩) t.ks.length cc ((t.ks.map (bk (h + 1))).map at_) :: star ((t.ks.take i ++ k' :: t.ks.drop (i + 1)).map (tr c (h + 1))) :: cx c f :: l) := by (refine Sat.to (by assumption) ?_; apply Ent.pick; (focus (repeat (first | exact Sel.here | apply Sel.there))); apply Ent.pick; (focus (repeat (first | exact Sel.here | apply Sel.there))); apply Ent.pick; (focus (repeat (first | exact Sel.here | apply Sel.there))); apply Ent.pick; (focus (repeat (first | exact Sel.here | apply Sel.there))); apply Ent.pick; (focus (repeat (first | exact Sel.here | apply Sel.there))); exact Fits.out)
        rw [← ebk k' hb] at T3
        exact tr_close T3
  · have h1 : found = false := h1
    subst h1
    have hcase : (typ = 0 ∧ (∀ a ∈ preL (t.xs.take i) ((t.ks.take i).map (inL (h + 1))), a.k < e.k) ∧ ∀ a ∈ postL (t.xs.drop i) ((t.ks.drop (i + 1)).map (inL (h + 1))), e.k < a.k) ∨ (typ = 2 ∧ postL (t.xs.drop i) ((t.ks.drop (i + 1)).map (inL (h + 1))) = [] ∧ inL (h + 1) k ≠ []) := by
      rcases ha with ⟨h2, hf⟩ | ⟨h2, h3, _⟩
      · left
        rw [e4] at hs
        exact ⟨h2, preL_lt (by simp; omega) hs.left hf.mem_lo, postL_gt (by simp; omega) hs.right.right hf.mem_hi⟩
      · right
        refine ⟨h2, ?_, hne⟩
        rw [List.drop_eq_nil_of_le (by omega)]
        cases (t.ks.drop (i + 1)).map (inL (h + 1)) <;> rfl
    have ht : typ = 0 ∨ typ = 2 := by rcases hcase with ⟨h, _⟩ | ⟨h, _⟩; exact .inl h; exact .inr h
    have law0 : inL (h + 1 + 1) t = preL (t.xs.take i) ((t.ks.take i).map (inL (h + 1))) ++ (inL (h + 1) k ++ postL (t.xs.drop i) ((t.ks.drop (i + 1)).map (inL (h + 1)))) := e4
    have hR := remR_kid (xs := []) (i := 0) hcase
    rw [← law0] at hR
    rw [hR] at K
    (repeat (first | (refine Step.go ?_; intros) | refine iteB_t (by decide) ?_ | refine iteB_f (by decide) ?_ | (refine Duo.mk (by first | omega | exact rfl | decide) ?_; intros) | (refine Duo.mk (Clo.mk (by kernel_rfl)) ?_; intros)))
    refine call_of (ih k e typ ht hkw.1 hsk (by omega) (by omega) _ _ (by (refine Sat.to (by assumption) ?_; apply Ent.pick; (focus (repeat (first | exact Sel.here | apply Sel.there))); apply Ent.pick; (focus (repeat (first | exact Sel.here | apply Sel.there))); exact Ent.refl))) ?_
    rintro en H9 ⟨k', rfl, hb, hw', hl', hp, S9⟩
    (repeat (first | (refine Step.go ?_; intros) | refine iteB_t (by decide) ?_ | refine iteB_f (by decide) ?_ | (refine Duo.mk (by first | omega | exact rfl | decide) ?_; intros) | (refine Duo.mk (Clo.mk (by kernel_rfl)) ?_; intros)))
    rename_i H12 S12
    have T1 : Sat H12 (tr c (h + 1) k' :: star ((t.ks.take i ++ t.ks.drop (i + 1)).map (tr c (h + 1))) :: _) := S12.to (Ent.pick (by (repeat (first | exact Sel.here | apply Sel.there))) (Ent.pick (by (repeat (first | exact Sel.here | apply Sel.there))) .refl))
    have T2 := T1.to kid_in
    refine K (mkT t.b t.xs (t.ks.take i ++ k' :: t.ks.drop (i + 1))) H12 rfl (wfk k' _ hw' hl' rfl) rfl ?_ ?_
    · have a1 : inL (h + 1 + 1) (mkT t.b t.xs (t.ks.take i ++ k' :: t.ks.drop (i + 1))) = _ := e3 (t.ks.take i) (t.ks.drop (i + 1)) k' (by simp; omega) (by simp; omega)
      rw [a1, hp]
    · have T3 : Sat H12 (pt t.b (.cells ⟨[.slice ip t.xs.length ic, .slice (some ⟨kr, ko, none⟩) t.ks.length cc, .pointer (at_ c)]⟩ 94) :: sI ip t.xs.length ic t.xs :: sP (some ⟨kr, ko, none⟩) t.ks.length cc ((t.ks.map (bk (h + 1))).map at_) :: star ((t.ks.take i ++ k' :: t.ks.drop (i + 1)).map (tr c (h + 1))) :: cx c f :: l) := by (refine Sat.to (by assumption) ?_; apply Ent.pick; (focus (repeat (first | exact Sel.here | apply Sel.there))); apply Ent.pick; (focus (repeat (first | exact Sel.here | apply Sel.there))); apply Ent.pick; (focus (repeat (first | exact Sel.here | apply Sel.there))); apply Ent.pick; (focus (repeat (first | exact Sel.here | apply Sel.there))); apply Ent.pick; (focus (repeat (first | exact Sel.here | apply Sel.there))); exact Fits.out)
      rw [← ebk k' hb] at T3
      exact tr_close T3
end
end Go.Proofs.Ytdgcdjlomindhaa

set_option linter.unusedVariables false
set_option linter.unusedSimpArgs false
set_option linter.unnecessarySimpa false
namespace Go.Proofs.Ytdgcdjlomindhaa
open Go Go.Den Go.Proofs
/-! Where the key stands when children were changed. -/
section
variable {X Y : List Itm} {y z : Itm} {k : Int} {j : Nat} {found : Bool}
theorem mid_get {α : Type} {X Y : List α} {y : α} {j : Nat} (hj : X.length = j) : ∀ i, (X ++ y :: Y)[i]? = if i < j then X[i]? else if i = j then some y else Y[i - (j + 1)]? := by
  intro i
  split
  · rename_i h; rw [List.getElem?_append_left (by omega)]
  · split
    · rename_i h1 h2; subst h2; rw [List.getElem?_append_right (by omega), hj, Nat.sub_self]; rfl
    · rw [List.getElem?_append_right (by omega), hj]
      obtain ⟨s, hs⟩ : ∃ s, i - j = s + 1 := ⟨i - j - 1, by omega⟩
      rw [hs, List.getElem?_cons_succ]
      congr 1; omega
theorem find_left (hj : X.length = j) (hf : FindAt (X ++ y :: Y) k (j + 1) found) (hz : z.k < y.k) : FindAt (X ++ z :: Y) k (j + 1) found := by
  have hy : y.k < k := hf.lo j y (by rw [mid_get hj, if_neg (by omega), if_pos rfl]) (by omega)
  have same : ∀ i, i ≠ j → (X ++ z :: Y)[i]? = (X ++ y :: Y)[i]? := by
    intro i hi
    rw [mid_get hj, mid_get hj]
    split
    · rfl
    · rfl
  refine ⟨by have := hf.le; simpa using this, fun i x hx hi => ?_, fun h => ?_, fun i x hx hi h => ?_⟩
  · by_cases e : i = j
    · subst e
      rw [mid_get hj, if_neg (by omega), if_pos rfl] at hx
      cases hx; omega
    · rw [same i e] at hx; exact hf.lo i x hx hi
  · obtain ⟨x, hx, hk⟩ := hf.hit h
    exact ⟨x, by rw [same _ (by omega)]; exact hx, hk⟩
  · rw [same i (by omega)] at hx
    exact hf.hi i x hx hi h
theorem find_right (hj : X.length = j) (hf : FindAt (X ++ y :: Y) k j found) (hz : y.k < z.k) : FindAt (X ++ z :: Y) k j false := by
  have hy : k ≤ y.k := by
    have e : (X ++ y :: Y)[j]? = some y := by rw [mid_get hj, if_neg (by omega), if_pos rfl]
    cases found with
    | true =>
      obtain ⟨x, hx, hk⟩ := hf.hit rfl
      rw [e] at hx; cases hx; omega
    | false => have := hf.hi j y e (Nat.le_refl _) (fun h => by cases h); omega
  have same : ∀ i, i ≠ j → (X ++ z :: Y)[i]? = (X ++ y :: Y)[i]? := by
    intro i hi
    rw [mid_get hj, mid_get hj]
    split
    · rfl
    · rfl
  refine ⟨by have := hf.le; simpa using this, fun i x hx hi => ?_, fun h => (by cases h), fun i x hx hi h => ?_⟩
  · rw [same i (by omega)] at hx; exact hf.lo i x hx hi
  · by_cases e : i = j
    · subst e
      rw [mid_get hj, if_neg (by omega), if_pos rfl] at hx
      cases hx; omega
    · rw [same i e] at hx
      exact hf.hi i x hx hi (fun _ => by omega)
theorem two_get {α : Type} {X Y : List α} {y : α} {j : Nat} (hj : X.length = j) : ∀ i, (X ++ Y)[i]? = if i < j then (X ++ y :: Y)[i]? else (X ++ y :: Y)[i + 1]? := by
  intro i
  split
  · rename_i h; rw [mid_get hj, if_pos h, List.getElem?_append_left (by omega)]
  · rw [mid_get hj, if_neg (by omega), if_neg (by omega), List.getElem?_append_right (by omega), hj]
    congr 1; omega
theorem find_merge (hj : X.length = j) {i : Nat} (hf : FindAt (X ++ y :: Y) k i found) (hi : i = j ∨ (i = j + 1 ∧ Y = [])) : FindAt (X ++ Y) k j false := by
  refine ⟨by simp; omega, fun s x hx hs => ?_, fun h => (by cases h), fun s x hx hs h => ?_⟩
  · rw [two_get (y := y) hj, if_pos hs] at hx
    exact hf.lo s x hx (by omega)
  · rw [two_get (y := y) hj, if_neg (by omega)] at hx
    rcases hi with h | ⟨h, rfl⟩
    · exact hf.hi (s + 1) x hx (by omega) (fun _ => by omega)
    · have := lt_of hx
      simp at this
      omega
end
theorem item_mem {α : Type} {g : α → List Itm} {xs : List Itm} {ks : List α} (hw : ks = [] ∨ ks.length = xs.length + 1) {x : Itm} (hx : x ∈ xs) : x ∈ inter xs (ks.map g) := by
  obtain ⟨i, hi⟩ := List.mem_iff_getElem?.1 hx
  obtain ⟨A, B, e, _⟩ := inter_item (g := g) hw hi
  rw [e]; simp
/-- A node's items and children on both sides of a place. -/
theorem split_two {d h j : Nat} {t : Tr (h + 1 + 1)} (hw : WF d (h + 1 + 1) t) (hj : j < t.xs.length) : ∃ X y Y A a b B, t.xs = X ++ y :: Y ∧ t.ks = A ++ a :: b :: B ∧ X.length = j ∧ A.length = j ∧ Y.length = B.length ∧ t.ks[j]? = some a ∧ t.ks[j + 1]? = some b := by
  have h0 : t.ks.length = t.xs.length + 1 := hw.1 (Nat.succ_pos h)
  obtain ⟨y, ex1, ex2, ex3⟩ := cut_at' (l := t.xs) (i := j) hj
  obtain ⟨a, e1, e2, e3⟩ := cut_at' (l := t.ks) (i := j) (by omega)
  obtain ⟨b, f1, f2, f3⟩ := cut_at' (l := t.ks) (i := j + 1) (by omega)
  refine ⟨t.xs.take j, y, t.xs.drop (j + 1), t.ks.take j, a, b, t.ks.drop (j + 1 + 1), ex1, ?_, by simp; omega, by simp; omega, by simp; omega, e2, f2⟩
  rw [← f3]; exact e1
end Go.Proofs.Ytdgcdjlomindhaa

set_option linter.unusedVariables false
set_option linter.unusedSimpArgs false
set_option linter.unnecessarySimpa false
namespace Go.Proofs.Ytdgcdjlomindhaa
open Go Go.Den Go.Proofs
/-! Taken out of a tree. -/
def Ih (c f d h : Nat) : Prop := ∀ (k : Tr (h + 1)) (e : Itm) (typ : Int), (typ = 0 ∨ typ = 2) → WF d (h + 1) k → Srt (inL (h + 1) k) → (inL (h + 1) k).length < 2 ^ 38 → 1 ≤ k.xs.length → ∀ (H : Heap) (l : List HP), Sat H (tr c (h + 1) k :: cx c f :: l) → CallsH Try.prog 69 ⟨[.pointer (at_ k.b), .agg ⟨e.cells⟩, .int .i64 ((d - 1 : Nat) : Int), .int .i64 typ]⟩ H (RemPost d c f typ e h k l)
section
variable {c f d : Nat} {e : Itm} {typ : Int}
/-- A node that has children: to where the child is looked at. -/
theorem rem_int {h : Nat} {t : Tr (h + 1 + 1)} {H : Heap} {l : List HP} {m : Int} {R : Ending → Heap → Prop} (ht : typ = 0 ∨ typ = 2) (hw : WF d (h + 1 + 1) t) (hs : Srt (inL (h + 1 + 1) t)) (hn : (inL (h + 1 + 1) t).length < 2 ^ 38) (S : Sat H (tr c (h + 1 + 1) t :: cx c f :: l))
    (K : ∀ (i : Nat) (found : Bool) r r1 H1, At_ typ t.xs e.k i found → Sat H1 (tr c (h + 1 + 1) t :: cx c f :: pt r (.cells ⟨e.cells⟩ 25) :: pt r1 (.cells ⟨[.int .i64 0, .int .i64 0]⟩ 25) :: l) → F69.L0 (at_ t.b) m typ r r1 (i : Int) found H1 R) :
    CallsH Try.prog 69 ⟨[.pointer (at_ t.b), .agg ⟨e.cells⟩, .int .i64 m, .int .i64 typ]⟩ H R := by
  have h0 : t.ks.length = t.xs.length + 1 := hw.1 (Nat.succ_pos h)
  have hxl := xs_len (g := inL (h + 1)) hw.or
  have hs' := hs
  rw [inL_succ] at hn hs'
  have hsx := srt_xs hw.or hs'
  obtain ⟨ip, ic, cp, cc, S0⟩ := tr_open S
  clear S
  refine F69.calls ?_
  unfold F69.go
  rcases ht with rfl | rfl
  · (repeat (first | (refine Step.go ?_; intros) | refine iteB_t (by decide) ?_ | refine iteB_f (by decide) ?_ | (refine Duo.mk (by first | omega | exact rfl | decide) ?_; intros) | (refine Duo.mk (Clo.mk (by kernel_rfl)) ?_; intros)))
    rename_i r H1 S1 r1 H2 S2
    refine call_of (find_ok (e := e) hsx (by omega) (by (refine Sat.to (by assumption) ?_; apply Ent.pick; (focus (repeat (first | exact Sel.here | apply Sel.there))); exact Ent.refl))) ?_
    rintro en H3 ⟨i, found, rfl, hf, S3⟩
    (repeat (first | (refine Step.go ?_; intros) | refine iteB_t (by decide) ?_ | refine iteB_f (by decide) ?_ | (refine Duo.mk (by first | omega | exact rfl | decide) ?_; intros) | (refine Duo.mk (Clo.mk (by kernel_rfl)) ?_; intros)))
    refine iteB_f (by rw [h0]; simp; omega) ?_
    exact K i found r r1 H3 (.inl ⟨rfl, hf⟩) (tr_shut (ip := ip) (ic := ic) (cp := cp) (cc := cc) (n := t.xs.length) (m := t.ks.length) Sat.fin)
  · (repeat (first | (refine Step.go ?_; intros) | refine iteB_t (by decide) ?_ | refine iteB_f (by decide) ?_ | (refine Duo.mk (by first | omega | exact rfl | decide) ?_; intros) | (refine Duo.mk (Clo.mk (by kernel_rfl)) ?_; intros)))
    rename_i r H1 S1 r1 H2 S2
    refine iteB_f (by rw [h0]; simp; omega) ?_
    (repeat (first | (refine Step.go ?_; intros) | refine iteB_t (by decide) ?_ | refine iteB_f (by decide) ?_ | (refine Duo.mk (by first | omega | exact rfl | decide) ?_; intros) | (refine Duo.mk (Clo.mk (by kernel_rfl)) ?_; intros)))
    exact K t.xs.length false r r1 H2 (.inr ⟨rfl, rfl, rfl⟩) (tr_shut (ip := ip) (ic := ic) (cp := cp) (cc := cc) (n := t.xs.length) (m := t.ks.length) Sat.fin)
/-- Behind the children's change: once more. -/
theorem l5_ok {h : Nat} {t t2 : Tr (h + 1 + 1)} {s7 s10 : Nat} {H : Heap} {l : List HP} (hd : 2 ≤ d) (hd2 : d < 2 ^ 20) (ht : typ = 0 ∨ typ = 2) (hb : t2.b = t.b) (hw : WF d (h + 1 + 1) t2) (hs : Srt (inL (h + 1 + 1) t)) (hn : (inL (h + 1 + 1) t).length < 2 ^ 38) (hL : inL (h + 1 + 1) t2 = inL (h + 1 + 1) t) (hx : t.xs.length ≤ t2.xs.length + 1)
    (hbig : ∀ (i : Nat) (found : Bool), At_ typ t2.xs e.k i found → ∀ k, t2.ks[i]? = some k → d ≤ k.xs.length) (ih : Ih c f d h)
    (S : Sat H (tr c (h + 1 + 1) t2 :: cx c f :: pt s7 (.cells ⟨e.cells⟩ 25) :: pt s10 (.cells ⟨[.int .i64 0, .int .i64 0]⟩ 25) :: l)) :
    F82.L5 (at_ t.b) ((d - 1 : Nat) : Int) typ s7 s10 H (RemPost d c f typ e (h + 1) t l) := by
  have h0 : t2.ks.length = t2.xs.length + 1 := hw.1 (Nat.succ_pos h)
  rw [← hL] at hs hn
  refine F82.L5_step ?_
  unfold F82.L5n
  (repeat (first | (refine Step.go ?_; intros) | refine iteB_t (by decide) ?_ | refine iteB_f (by decide) ?_ | (refine Duo.mk (by first | omega | exact rfl | decide) ?_; intros) | (refine Duo.mk (Clo.mk (by kernel_rfl)) ?_; intros)))
  rw [← hb]
  refine call_of (rem_int (c := c) (f := f) (e := e) (typ := typ) (m := ((d - 1 : Nat) : Int)) (l := pt s7 (.cells ⟨e.cells⟩ 25) :: pt s10 (.cells ⟨[.int .i64 0, .int .i64 0]⟩ 25) :: l) (R := fun en H1 => ∃ t' : Tr (h + 1 + 1), en = .returned (.tuple ⟨[.agg ⟨((remR typ (inL (h + 1 + 1) t2) e.k).1.getD ⟨0, 0⟩).cells⟩, .bool (remR typ (inL (h + 1 + 1) t2) e.k).1.isSome]⟩) ∧ t'.b = t2.b ∧ WF d (h + 1 + 1) t' ∧ t'.xs.length = t2.xs.length ∧ inL (h + 1 + 1) t' = (remR typ (inL (h + 1 + 1) t2) e.k).2 ∧ Sat H1 (tr c (h + 1 + 1) t' :: cx c f :: pt s7 (.cells ⟨e.cells⟩ 25) :: pt s10 (.cells ⟨[.int .i64 0, .int .i64 0]⟩ 25) :: l)) ht hw hs hn S ?_) ?_
  · intro i found r r1 H1 ha S1
    have hi : i ≤ t2.xs.length := by rcases ha with ⟨_, h⟩ | ⟨_, h, _⟩; exact h.le; omega
    obtain ⟨k, hk⟩ : ∃ k, t2.ks[i]? = some k := get_of (by omega)
    refine rem_big hd hd2 hw hs hn ha hk (hbig i found ha k hk) ih S1 ?_
    intro t' H2 a1 a2 a3 a4 S2
    exact ⟨t', rfl, a1, a2, a3, a4, S2⟩
  · rintro en H2 ⟨t', rfl, a1, a2, a3, a4, S2⟩
    (repeat (first | (refine Step.go ?_; intros) | refine iteB_t (by decide) ?_ | refine iteB_f (by decide) ?_ | (refine Duo.mk (by first | omega | exact rfl | decide) ?_; intros) | (refine Duo.mk (Clo.mk (by kernel_rfl)) ?_; intros)))
    rw [hL] at a4 ⊢
    exact ⟨t', rfl, a1.trans hb, a2, by omega, a4, Sat.fin⟩
end
end Go.Proofs.Ytdgcdjlomindhaa

set_option linter.unusedVariables false
set_option linter.unusedSimpArgs false
set_option linter.unnecessarySimpa false
namespace Go.Proofs.Ytdgcdjlomindhaa
open Go Go.Den Go.Proofs
/-! Taken out of a tree: a child that has too few takes from a neighbour, or is merged. -/
section
variable {c f d : Nat} {e : Itm} {typ : Int}
theorem WF.parts {h : Nat} {t : Tr (h + 1 + 1)} (hw : WF d (h + 1 + 1) t) {X Y : List Itm} {y z : Itm} {A B : List (Tr (h + 1))} {a b a' b' : Tr (h + 1)} (hX : t.xs = X ++ y :: Y) (hA : t.ks = A ++ a :: b :: B) (ha : KidOk d h a') (hb : KidOk d h b') : WF d (h + 1 + 1) (mkT t.b (X ++ z :: Y) (A ++ a' :: b' :: B)) := by
  have h0 : t.ks.length = t.xs.length + 1 := hw.1 (Nat.succ_pos h)
  rw [hX, hA] at h0
  refine mk_WF (by simpa using h0) fun k hk => ?_
  have key : ∀ q ∈ A ++ a :: b :: B, KidOk d h q := fun q hq => hw.kid (by rw [hA]; exact hq)
  rcases List.mem_append.1 hk with h1 | h1
  · exact key k (List.mem_append_left _ h1)
  · rcases List.mem_cons.1 h1 with rfl | h1
    · exact ha
    · rcases List.mem_cons.1 h1 with rfl | h1
      · exact hb
      · exact key k (List.mem_append_right _ (List.mem_cons_of_mem _ (List.mem_cons_of_mem _ h1)))
theorem after_left {h j : Nat} {t : Tr (h + 1 + 1)} {s7 s10 : Nat} {H : Heap} {l : List HP} (hd : 2 ≤ d) (hd2 : d < 2 ^ 20) (ht : typ = 0 ∨ typ = 2) (hw : WF d (h + 1 + 1) t) (hs : Srt (inL (h + 1 + 1) t)) (hn : (inL (h + 1 + 1) t).length < 2 ^ 38) (ih : Ih c f d h) {found : Bool} (hat : At_ typ t.xs e.k (j + 1) found)
    {X Y : List Itm} {y : Itm} {A B : List (Tr (h + 1))} {a b : Tr (h + 1)} (hX : t.xs = X ++ y :: Y) (hA : t.ks = A ++ a :: b :: B) (hj : X.length = j) (hjA : A.length = j) (hlong : d ≤ a.xs.length)
    (S : Sat H (tr c (h + 1 + 1) t :: cx c f :: pt s7 (.cells ⟨e.cells⟩ 25) :: pt s10 (.cells ⟨[.int .i64 0, .int .i64 0]⟩ 25) :: l)) :
    F82.L4 (at_ t.b) ((j + 1 : Nat) : Int) ((d - 1 : Nat) : Int) typ s7 s10 H (RemPost d c f typ e (h + 1) t l) := by
  have hak : KidOk d h a := hw.kid (by rw [hA]; simp)
  have hbk : KidOk d h b := hw.kid (by rw [hA]; simp)
  obtain ⟨a0, z, ha⟩ : ∃ a0 z, a.xs = a0 ++ [z] := by
    rcases List.eq_nil_or_concat a.xs with e | ⟨a0, z, e⟩
    · rw [e] at hlong; simp at hlong; omega
    · exact ⟨a0, z, by rw [e, List.concat_eq_append]⟩
  have hal : a.xs.length = a0.length + 1 := by rw [ha]; simp
  have hl0 : inL (h + 1 + 1) t = preL X (A.map (inL (h + 1))) ++ ((inL (h + 1) a ++ y :: inL (h + 1) b) ++ postL Y (B.map (inL (h + 1)))) := by
    rw [inL_succ, hX, hA]; exact trio_inL (by omega)
  have hzy : z.k < y.k := by
    rw [hl0] at hs
    have h1 : Srt (inL (h + 1) a ++ y :: inL (h + 1) b) := hs.right.left
    refine h1.item.1 z ?_
    rw [inL_succ]
    exact item_mem hak.wf.or (by rw [ha]; simp)
  refine steal_left hw hn hX hA hj hjA ha S ?_
  intro k0 w H1 hk hw1 S1
  have hko := leaf_or hak.wf
  have hkb := leaf_or hbk.wf
  have oka : KidOk d h (mkT a.b a0 k0) := by
    refine ⟨⟨fun hp => ?_, fun q hq => hak.wf.2 q (by rw [hk]; exact List.mem_append_left _ hq)⟩, ?_⟩
    · show k0.length = a0.length + 1
      have h1 := hak.wf.1 hp
      rw [hk, List.length_append] at h1
      rcases hw1 with ⟨_, h2⟩ | h2
      · rw [hk] at h2
        have := congrArg List.length h2
        simp at this
        simp [this] at h1
      · omega
    · show d ≤ a0.length + 1
      omega
  have okb : KidOk d h (mkT b.b (y :: b.xs) (w ++ b.ks)) := by
    refine ⟨⟨fun hp => ?_, fun q hq => ?_⟩, ?_⟩
    · show (w ++ b.ks).length = (y :: b.xs).length + 1
      have h1 := hbk.wf.1 hp
      rcases hw1 with ⟨_, h2⟩ | h2
      · have := hak.wf.1 hp
        rw [h2] at this; simp at this
      · rw [List.length_append, h2, h1, List.length_cons]; omega
    · have hq : q ∈ w ++ b.ks := hq
      rcases List.mem_append.1 hq with hq | hq
      · exact hak.wf.2 q (by rw [hk]; exact List.mem_append_right _ hq)
      · exact hbk.wf.2 q hq
    · show d ≤ (y :: b.xs).length + 1
      have := hbk.min
      rw [List.length_cons]; omega
  refine l5_ok (t2 := mkT t.b (X ++ z :: Y) (A ++ mkT a.b a0 k0 :: mkT b.b (y :: b.xs) (w ++ b.ks) :: B)) hd hd2 ht rfl (hw.parts hX hA oka okb) hs hn ?_ ?_ ?_ ih S1
  · have h2 : inL (h + 1 + 1) (mkT t.b (X ++ z :: Y) (A ++ mkT a.b a0 k0 :: mkT b.b (y :: b.xs) (w ++ b.ks) :: B)) = preL X (A.map (inL (h + 1))) ++ ((inL (h + 1) (mkT a.b a0 k0) ++ z :: inL (h + 1) (mkT b.b (y :: b.xs) (w ++ b.ks))) ++ postL Y (B.map (inL (h + 1)))) := trio_inL (by omega)
    rw [h2, hl0, left_law hak.wf hbk.wf ha hk hw1]
  · show t.xs.length ≤ (X ++ z :: Y).length + 1
    rw [hX]; simp
  · intro i2 found2 ha2 k hk2
    have hi : i2 = j + 1 := by
      rcases ha2 with ⟨rfl, h2⟩ | ⟨rfl, h2, _⟩
      · rcases hat with ⟨_, h3⟩ | ⟨h3, _⟩
        · rw [hX] at h3
          exact (FindAt.uniq h2 (find_left hj h3 hzy)).1
        · cases h3
      · rcases hat with ⟨h3, _⟩ | ⟨_, h3, _⟩
        · cases h3
        · rw [h2, h3, hX]
          show (X ++ z :: Y).length = _
          simp
    subst hi
    have hk2 : (A ++ mkT a.b a0 k0 :: mkT b.b (y :: b.xs) (w ++ b.ks) :: B)[j + 1]? = some k := hk2
    rw [List.getElem?_append_right (by omega), hjA, Nat.add_sub_cancel_left] at hk2
    have hk3 : mkT b.b (y :: b.xs) (w ++ b.ks) = k := by simpa using hk2
    rw [← hk3]
    show d ≤ (y :: b.xs).length
    have := hbk.min
    rw [List.length_cons]; omega
end
end Go.Proofs.Ytdgcdjlomindhaa

set_option linter.unusedVariables false
set_option linter.unusedSimpArgs false
set_option linter.unnecessarySimpa false
namespace Go.Proofs.Ytdgcdjlomindhaa
open Go Go.Den Go.Proofs
/-! Taken out of a tree: from the right neighbour; merged. -/
section
variable {c f d : Nat} {e : Itm} {typ : Int}
theorem after_right {h j : Nat} {t : Tr (h + 1 + 1)} {s7 s10 : Nat} {H : Heap} {l : List HP} (hd : 2 ≤ d) (hd2 : d < 2 ^ 20) (ht : typ = 0 ∨ typ = 2) (hw : WF d (h + 1 + 1) t) (hs : Srt (inL (h + 1 + 1) t)) (hn : (inL (h + 1 + 1) t).length < 2 ^ 38) (ih : Ih c f d h) {found : Bool} (hat : At_ typ t.xs e.k j found)
    {X Y : List Itm} {y : Itm} {A B : List (Tr (h + 1))} {a b : Tr (h + 1)} (hX : t.xs = X ++ y :: Y) (hA : t.ks = A ++ a :: b :: B) (hj : X.length = j) (hjA : A.length = j) (hlong : d ≤ b.xs.length)
    (S : Sat H (tr c (h + 1 + 1) t :: cx c f :: pt s7 (.cells ⟨e.cells⟩ 25) :: pt s10 (.cells ⟨[.int .i64 0, .int .i64 0]⟩ 25) :: l)) :
    F82.L3 (at_ t.b) (j : Int) ((d - 1 : Nat) : Int) typ s7 s10 H (RemPost d c f typ e (h + 1) t l) := by
  have hak : KidOk d h a := hw.kid (by rw [hA]; simp)
  have hbk : KidOk d h b := hw.kid (by rw [hA]; simp)
  obtain ⟨z, b0, hb⟩ : ∃ z b0, b.xs = z :: b0 := by
    cases e : b.xs with
    | nil => rw [e] at hlong; simp at hlong; omega
    | cons z b0 => exact ⟨z, b0, rfl⟩
  have hbl : b.xs.length = b0.length + 1 := by rw [hb]; simp
  have hl0 : inL (h + 1 + 1) t = preL X (A.map (inL (h + 1))) ++ ((inL (h + 1) a ++ y :: inL (h + 1) b) ++ postL Y (B.map (inL (h + 1)))) := by
    rw [inL_succ, hX, hA]; exact trio_inL (by omega)
  have hzy : y.k < z.k := by
    rw [hl0] at hs
    have h1 : Srt (inL (h + 1) a ++ y :: inL (h + 1) b) := hs.right.left
    refine h1.item.2 z ?_
    rw [inL_succ]
    exact item_mem hbk.wf.or (by rw [hb]; simp)
  refine steal_right hw hn hX hA hj hjA hb S ?_
  intro k0 w H1 hk hw1 S1
  have oka : KidOk d h (mkT a.b (a.xs ++ [y]) (a.ks ++ w)) := by
    refine ⟨⟨fun hp => ?_, fun q hq => ?_⟩, ?_⟩
    · show (a.ks ++ w).length = (a.xs ++ [y]).length + 1
      have h1 := hak.wf.1 hp
      rcases hw1 with ⟨_, h2⟩ | h2
      · have := hbk.wf.1 hp
        rw [h2] at this; simp at this
      · rw [List.length_append, h2, h1, List.length_append, List.length_singleton]
    · have hq : q ∈ a.ks ++ w := hq
      rcases List.mem_append.1 hq with hq | hq
      · exact hak.wf.2 q hq
      · exact hbk.wf.2 q (by rw [hk]; exact List.mem_append_left _ hq)
    · show d ≤ (a.xs ++ [y]).length + 1
      have := hak.min
      rw [List.length_append, List.length_singleton]; omega
  have okb : KidOk d h (mkT b.b b0 k0) := by
    refine ⟨⟨fun hp => ?_, fun q hq => hbk.wf.2 q (by rw [hk]; exact List.mem_append_right _ hq)⟩, ?_⟩
    · show k0.length = b0.length + 1
      have h1 := hbk.wf.1 hp
      rw [hk, List.length_append] at h1
      rcases hw1 with ⟨_, h2⟩ | h2
      · rw [hk] at h2
        have := congrArg List.length h2
        simp at this
        simp [this] at h1
      · omega
    · show d ≤ b0.length + 1
      omega
  refine l5_ok (t2 := mkT t.b (X ++ z :: Y) (A ++ mkT a.b (a.xs ++ [y]) (a.ks ++ w) :: mkT b.b b0 k0 :: B)) hd hd2 ht rfl (hw.parts hX hA oka okb) hs hn ?_ ?_ ?_ ih S1
  · have h2 : inL (h + 1 + 1) (mkT t.b (X ++ z :: Y) (A ++ mkT a.b (a.xs ++ [y]) (a.ks ++ w) :: mkT b.b b0 k0 :: B)) = preL X (A.map (inL (h + 1))) ++ ((inL (h + 1) (mkT a.b (a.xs ++ [y]) (a.ks ++ w)) ++ z :: inL (h + 1) (mkT b.b b0 k0)) ++ postL Y (B.map (inL (h + 1)))) := trio_inL (by omega)
    rw [h2, hl0, right_law hak.wf hbk.wf hb hk hw1]
  · show t.xs.length ≤ (X ++ z :: Y).length + 1
    rw [hX]; simp
  · intro i2 found2 ha2 k hk2
    have hi : i2 = j := by
      rcases ha2 with ⟨rfl, h2⟩ | ⟨rfl, h2, _⟩
      · rcases hat with ⟨_, h3⟩ | ⟨h3, _⟩
        · rw [hX] at h3
          exact (FindAt.uniq h2 (find_right hj h3 hzy)).1
        · cases h3
      · rcases hat with ⟨h3, _⟩ | ⟨_, h3, _⟩
        · cases h3
        · rw [hX] at h3
          simp at h3
          omega
    subst hi
    have hk2 : (A ++ mkT a.b (a.xs ++ [y]) (a.ks ++ w) :: mkT b.b b0 k0 :: B)[i2]? = some k := hk2
    rw [List.getElem?_append_right (by omega), hjA, Nat.sub_self] at hk2
    have hk3 : mkT a.b (a.xs ++ [y]) (a.ks ++ w) = k := by simpa using hk2
    rw [← hk3]
    show d ≤ (a.xs ++ [y]).length
    have := hak.min
    rw [List.length_append, List.length_singleton]; omega
theorem after_merge {h i j : Nat} {t : Tr (h + 1 + 1)} {s7 s10 : Nat} {H : Heap} {l : List HP} (hd : 2 ≤ d) (hd2 : d < 2 ^ 20) (ht : typ = 0 ∨ typ = 2) (hw : WF d (h + 1 + 1) t) (hs : Srt (inL (h + 1 + 1) t)) (hn : (inL (h + 1 + 1) t).length < 2 ^ 38) (ih : Ih c f d h) {found : Bool} (hat : At_ typ t.xs e.k i found)
    {X Y : List Itm} {y : Itm} {A B : List (Tr (h + 1))} {a b : Tr (h + 1)} (hX : t.xs = X ++ y :: Y) (hA : t.ks = A ++ a :: b :: B) (hj : X.length = j) (hjA : A.length = j) (hi : i = j ∨ (i = j + 1 ∧ Y = []))
    (S : Sat H (tr c (h + 1 + 1) t :: cx c f :: pt s7 (.cells ⟨e.cells⟩ 25) :: pt s10 (.cells ⟨[.int .i64 0, .int .i64 0]⟩ 25) :: l)) :
    F82.L2 (at_ t.b) (j : Int) ((d - 1 : Nat) : Int) typ s7 s10 H (RemPost d c f typ e (h + 1) t l) := by
  have hak : KidOk d h a := hw.kid (by rw [hA]; simp)
  have hbk : KidOk d h b := hw.kid (by rw [hA]; simp)
  have h0 : t.ks.length = t.xs.length + 1 := hw.1 (Nat.succ_pos h)
  have hl0 : inL (h + 1 + 1) t = preL X (A.map (inL (h + 1))) ++ ((inL (h + 1) a ++ y :: inL (h + 1) b) ++ postL Y (B.map (inL (h + 1)))) := by
    rw [inL_succ, hX, hA]; exact trio_inL (by omega)
  refine merge_two hw hn hX hA hj hjA S ?_
  intro H1 S1
  have okm : KidOk d h (mkT a.b (a.xs ++ y :: b.xs) (a.ks ++ b.ks)) := by
    refine ⟨⟨fun hp => ?_, fun q hq => ?_⟩, ?_⟩
    · show (a.ks ++ b.ks).length = (a.xs ++ y :: b.xs).length + 1
      have h1 := hak.wf.1 hp
      have h2 := hbk.wf.1 hp
      rw [List.length_append, h1, h2, List.length_append, List.length_cons]; omega
    · have hq : q ∈ a.ks ++ b.ks := hq
      rcases List.mem_append.1 hq with hq | hq
      · exact hak.wf.2 q hq
      · exact hbk.wf.2 q hq
    · show d ≤ (a.xs ++ y :: b.xs).length + 1
      have := hak.min
      rw [List.length_append, List.length_cons]; omega
  have hwm : WF d (h + 1 + 1) (mkT t.b (X ++ Y) (A ++ mkT a.b (a.xs ++ y :: b.xs) (a.ks ++ b.ks) :: B)) := by
    rw [hX, hA] at h0
    simp only [List.length_append, List.length_cons] at h0
    refine mk_WF (by simp only [List.length_append, List.length_cons]; omega) fun k hk => ?_
    have key : ∀ q ∈ A ++ a :: b :: B, KidOk d h q := fun q hq => hw.kid (by rw [hA]; exact hq)
    rcases List.mem_append.1 hk with h1 | h1
    · exact key k (List.mem_append_left _ h1)
    · rcases List.mem_cons.1 h1 with rfl | h1
      · exact okm
      · exact key k (List.mem_append_right _ (List.mem_cons_of_mem _ (List.mem_cons_of_mem _ h1)))
  refine l5_ok (t2 := mkT t.b (X ++ Y) (A ++ mkT a.b (a.xs ++ y :: b.xs) (a.ks ++ b.ks) :: B)) hd hd2 ht rfl hwm hs hn ?_ ?_ ?_ ih S1
  · have h2 : inL (h + 1 + 1) (mkT t.b (X ++ Y) (A ++ mkT a.b (a.xs ++ y :: b.xs) (a.ks ++ b.ks) :: B)) = preL X (A.map (inL (h + 1))) ++ (inL (h + 1) (mkT a.b (a.xs ++ y :: b.xs) (a.ks ++ b.ks)) ++ postL Y (B.map (inL (h + 1)))) := one_inL (by omega)
    rw [h2, hl0, merge_law hak.wf hbk.wf]
  · show t.xs.length ≤ (X ++ Y).length + 1
    rw [hX]; simp; omega
  · intro i2 found2 ha2 k hk2
    have hi2 : i2 = j := by
      rcases ha2 with ⟨rfl, h2⟩ | ⟨rfl, h2, _⟩
      · rcases hat with ⟨_, h3⟩ | ⟨h3, _⟩
        · rw [hX] at h3
          exact (FindAt.uniq h2 (find_merge hj h3 hi)).1
        · cases h3
      · rcases hat with ⟨h3, _⟩ | ⟨_, h3, _⟩
        · cases h3
        · have h4 : i2 = (X ++ Y).length := h2
          rw [hX] at h3
          simp at h3 h4
          rcases hi with h5 | ⟨h5, rfl⟩
          · omega
          · simp at h4; omega
    subst hi2
    have hk2 : (A ++ mkT a.b (a.xs ++ y :: b.xs) (a.ks ++ b.ks) :: B)[i2]? = some k := hk2
    rw [List.getElem?_append_right (by omega), hjA, Nat.sub_self] at hk2
    have hk3 : mkT a.b (a.xs ++ y :: b.xs) (a.ks ++ b.ks) = k := by simpa using hk2
    rw [← hk3]
    show d ≤ (a.xs ++ y :: b.xs).length
    have := hak.min
    have := hbk.min
    rw [List.length_append, List.length_cons]; omega
end
end Go.Proofs.Ytdgcdjlomindhaa

set_option linter.unusedVariables false
set_option linter.unusedSimpArgs false
set_option linter.unnecessarySimpa false
namespace Go.Proofs.Ytdgcdjlomindhaa
open Go Go.Den Go.Proofs
/-! Taken out of a tree, whole. -/
section
variable {c f d : Nat} {e : Itm} {typ : Int}
/-- A child's items' length is read. -/
theorem kid_hd {h j : Nat} {t : Tr (h + 1 + 1)} {k : Tr (h + 1)} {H : Heap} {l : List HP} (hk : t.ks[j]? = some k) (S : Sat H (tr c (h + 1 + 1) t :: l)) : ∃ ip ic cp cc jp jc dp dc, Sat H (pt t.b (.cells ⟨[.slice ip t.xs.length ic, .slice cp t.ks.length cc, .pointer (at_ c)]⟩ 94) :: sI ip t.xs.length ic t.xs :: sP cp t.ks.length cc ((t.ks.map (bk (h + 1))).map at_) :: pt k.b (.cells ⟨[.slice jp k.xs.length jc, .slice dp k.ks.length dc, .pointer (at_ c)]⟩ 94) :: l) := by
  obtain ⟨ip, ic, cp, cc, S0⟩ := tr_open S
  obtain ⟨q, e1, e2, _⟩ := cut_at' (l := t.ks) (i := j) (lt_of hk)
  rw [hk] at e2
  cases e2
  have S1 : Sat H (star (t.ks.map (tr c (h + 1))) :: _) := S0.to (Ent.bring (Sel.there (Sel.there (Sel.there Sel.here))))
  have S2 := S1.to (kid_out' e1)
  obtain ⟨jp, jc, dp, dc, S3⟩ := tr_open S2
  exact ⟨ip, ic, cp, cc, jp, jc, dp, dc, Sat.to S3 (by
    apply Ent.pick; (focus (repeat (first | exact Sel.here | apply Sel.there)))
    apply Ent.pick; (focus (repeat (first | exact Sel.here | apply Sel.there)))
    apply Ent.pick; (focus (repeat (first | exact Sel.here | apply Sel.there)))
    apply Ent.pick; (focus (repeat (first | exact Sel.here | apply Sel.there)))
    exact Fits.out)⟩
theorem grow_ok {h i : Nat} {t : Tr (h + 1 + 1)} {H : Heap} {l : List HP} (hd : 2 ≤ d) (hd2 : d < 2 ^ 20) (ht : typ = 0 ∨ typ = 2) (hw : WF d (h + 1 + 1) t) (hs : Srt (inL (h + 1 + 1) t)) (hn : (inL (h + 1 + 1) t).length < 2 ^ 38) (ih : Ih c f d h) {found : Bool} (hat : At_ typ t.xs e.k i found) (h1x : 1 ≤ t.xs.length)
    (S : Sat H (tr c (h + 1 + 1) t :: cx c f :: l)) :
    CallsH Try.prog 82 ⟨[.pointer (at_ t.b), .int .i64 (i : Int), .agg ⟨e.cells⟩, .int .i64 ((d - 1 : Nat) : Int), .int .i64 typ]⟩ H (RemPost d c f typ e (h + 1) t l) := by
  have h0 : t.ks.length = t.xs.length + 1 := hw.1 (Nat.succ_pos h)
  have hxl := xs_len (g := inL (h + 1)) hw.or
  have hn' := hn
  rw [inL_succ] at hn'
  have hle : i ≤ t.xs.length := by rcases hat with ⟨_, h⟩ | ⟨_, h, _⟩; exact h.le; omega
  have l2 : ∀ (s7 s10 : Nat) (H : Heap) (j : Nat), (i = j ∧ j < t.xs.length) ∨ (i = j + 1 ∧ i = t.xs.length) → Sat H (tr c (h + 1 + 1) t :: cx c f :: pt s7 (.cells ⟨e.cells⟩ 25) :: pt s10 (.cells ⟨[.int .i64 0, .int .i64 0]⟩ 25) :: l) → F82.L2 (at_ t.b) (j : Int) ((d - 1 : Nat) : Int) typ s7 s10 H (RemPost d c f typ e (h + 1) t l) := by
    intro s7 s10 H j hj S
    obtain ⟨X, y, Y, A, a, b, B, hX, hA, hXj, hAj, _, _⟩ := split_two hw (j := j) (by omega)
    refine after_merge hd hd2 ht hw hs hn ih hat hX hA hXj hAj ?_ S
    rcases hj with ⟨h1, h2⟩ | ⟨h1, h2⟩
    · exact .inl h1
    · right
      refine ⟨h1, List.eq_nil_of_length_eq_zero ?_⟩
      rw [hX] at h2
      simp at h2
      omega
  have l1 : ∀ (s7 s10 : Nat) (H : Heap), Sat H (tr c (h + 1 + 1) t :: cx c f :: pt s7 (.cells ⟨e.cells⟩ 25) :: pt s10 (.cells ⟨[.int .i64 0, .int .i64 0]⟩ 25) :: l) → F82.L1 (at_ t.b) (i : Int) ((d - 1 : Nat) : Int) typ s7 s10 H (RemPost d c f typ e (h + 1) t l) := by
    intro s7 s10 H S
    obtain ⟨ip, ic, cp, cc, S0⟩ := tr_open S
    refine F82.L1_step ?_
    unfold F82.L1n
    (repeat (first | (refine Step.go ?_; intros) | refine iteB_t (by decide) ?_ | refine iteB_f (by decide) ?_ | (refine Duo.mk (by first | omega | exact rfl | decide) ?_; intros) | (refine Duo.mk (Clo.mk (by kernel_rfl)) ?_; intros)))
    refine iteB_i (fun h1 => ?_) (fun h1 => ?_)
    · have h1 : i = t.xs.length := by have := of_decide_eq_true h1; omega
      rw [wsub1 (by omega) (by omega)]
      exact l2 s7 s10 H (i - 1) (.inr ⟨by omega, h1⟩) S
    · have h1 : i < t.xs.length := by have := of_decide_eq_false h1; omega
      exact l2 s7 s10 H i (.inl ⟨rfl, h1⟩) S
  have l0 : ∀ (s7 s10 : Nat) (H : Heap), Sat H (tr c (h + 1 + 1) t :: cx c f :: pt s7 (.cells ⟨e.cells⟩ 25) :: pt s10 (.cells ⟨[.int .i64 0, .int .i64 0]⟩ 25) :: l) → F82.L0 (at_ t.b) (i : Int) ((d - 1 : Nat) : Int) typ s7 s10 H (RemPost d c f typ e (h + 1) t l) := by
    intro s7 s10 H S
    refine F82.L0_step ?_
    unfold F82.L0n
    rw [wadd (by omega)]
    rcases Nat.lt_or_ge i t.xs.length with hi | hi
    · obtain ⟨X, y, Y, A, a, b, B, hX, hA, hXj, hAj, hYB, ha, hb⟩ := split_two hw hi
      obtain ⟨ip, ic, cp, cc, jp, jc, dp, dc, S0⟩ := kid_hd hb S
      have hI : HasI ((t.ks.map (bk (h + 1))).map at_) ((i + 1 : Nat) : Int) (at_ b.b) := .nat (by simp [hb]; rfl)
      (repeat (first | (refine Step.go ?_; intros) | refine iteB_t (by decide) ?_ | refine iteB_f (by decide) ?_ | (refine Duo.mk (by first | omega | exact rfl | decide) ?_; intros) | (refine Duo.mk (Clo.mk (by kernel_rfl)) ?_; intros)))
      refine iteB_t (by simp; omega) ?_
      (repeat (first | (refine Step.go ?_; intros) | refine iteB_t (by decide) ?_ | refine iteB_f (by decide) ?_ | (refine Duo.mk (by first | omega | exact rfl | decide) ?_; intros) | (refine Duo.mk (Clo.mk (by kernel_rfl)) ?_; intros)))
      refine Sat.idx (f := ptC) (E := 74) (z := 1) S0 ⟨by omega, by omega, fun r o hr => ?_⟩
      subst hr
      (repeat (first | (refine Step.go ?_; intros) | refine iteB_t (by decide) ?_ | refine iteB_f (by decide) ?_ | (refine Duo.mk (by first | omega | exact rfl | decide) ?_; intros) | (refine Duo.mk (Clo.mk (by kernel_rfl)) ?_; intros)))
      refine iteB_i (fun h1 => ?_) (fun h1 => l1 s7 s10 H S)
      have h1 : d ≤ b.xs.length := by have := of_decide_eq_true h1; omega
      exact after_right hd hd2 ht hw hs hn ih hat hX hA hXj hAj h1 S
    · obtain ⟨ip, ic, cp, cc, S0⟩ := tr_open S
      (repeat (first | (refine Step.go ?_; intros) | refine iteB_t (by decide) ?_ | refine iteB_f (by decide) ?_ | (refine Duo.mk (by first | omega | exact rfl | decide) ?_; intros) | (refine Duo.mk (Clo.mk (by kernel_rfl)) ?_; intros)))
      refine iteB_f (by simp; omega) ?_
      exact l1 s7 s10 H S
  refine F82.calls ?_
  unfold F82.go
  (iterate 2 (refine Step.go ?_; intros))
  rename_i r H1 S1 r1 H2 S2
  have S3 : Sat H2 (tr c (h + 1 + 1) t :: cx c f :: pt r (.cells ⟨e.cells⟩ 25) :: pt r1 (.cells ⟨[.int .i64 0, .int .i64 0]⟩ 25) :: l) := Sat.fin
  clear S S1 S2
  refine iteB_i (fun h1 => ?_) (fun h1 => l0 r r1 H2 S3)
  have h1 : 0 < i := by have := of_decide_eq_true h1; omega
  obtain ⟨j, rfl⟩ : ∃ j, i = j + 1 := ⟨i - 1, by omega⟩
  rw [wsub (by omega)]
  obtain ⟨X, y, Y, A, a, b, B, hX, hA, hXj, hAj, hYB, ha, hb⟩ := split_two hw (j := j) (by omega)
  obtain ⟨ip, ic, cp, cc, jp, jc, dp, dc, S0⟩ := kid_hd ha S3
  have hI : HasI ((t.ks.map (bk (h + 1))).map at_) (j : Int) (at_ a.b) := .nat (by simp [ha]; rfl)
  (repeat (first | (refine Step.go ?_; intros) | refine iteB_t (by decide) ?_ | refine iteB_f (by decide) ?_ | (refine Duo.mk (by first | omega | exact rfl | decide) ?_; intros) | (refine Duo.mk (Clo.mk (by kernel_rfl)) ?_; intros)))
  refine Sat.idx (f := ptC) (E := 74) (z := 1) S0 ⟨by omega, by omega, fun kr ko hr => ?_⟩
  subst hr
  (repeat (first | (refine Step.go ?_; intros) | refine iteB_t (by decide) ?_ | refine iteB_f (by decide) ?_ | (refine Duo.mk (by first | omega | exact rfl | decide) ?_; intros) | (refine Duo.mk (Clo.mk (by kernel_rfl)) ?_; intros)))
  refine iteB_i (fun h2 => ?_) (fun h2 => l0 r r1 H2 S3)
  have h2 : d ≤ a.xs.length := by have := of_decide_eq_true h2; omega
  exact after_left hd hd2 ht hw hs hn ih hat hX hA hXj hAj h2 S3
theorem rem_leaf {t : Tr 1} {H : Heap} {l : List HP} {m : Int} (ht : typ = 0 ∨ typ = 2) (hw : WF d 1 t) (hs : Srt (inL 1 t)) (hn : (inL 1 t).length < 2 ^ 38) (h1 : typ = 2 → 1 ≤ t.xs.length) (S : Sat H (tr c 1 t :: cx c f :: l)) :
    CallsH Try.prog 69 ⟨[.pointer (at_ t.b), .agg ⟨e.cells⟩, .int .i64 m, .int .i64 typ]⟩ H (RemPost d c f typ e 0 t l) := by
  have h0 : t.ks = [] := leaf_ks no0 t.ks
  have e0 : inL 1 t = t.xs := by rw [inL_succ, h0]; rfl
  have hml : ∀ xs', inL 1 (mkT t.b xs' t.ks) = xs' := by
    intro xs'
    show inter xs' (t.ks.map (inL 0)) = xs'
    rw [h0]; rfl
  have hmw : ∀ xs', WF d 1 (mkT t.b xs' t.ks) := fun xs' => ⟨fun hp => absurd hp (Nat.lt_irrefl 0), fun k hk => (no0 k).elim⟩
  rw [e0] at hs hn
  obtain ⟨ip, ic, cp, cc, S0⟩ := tr_open S
  clear S
  refine F69.calls ?_
  unfold F69.go
  rcases ht with rfl | rfl
  · (repeat (first | (refine Step.go ?_; intros) | refine iteB_t (by decide) ?_ | refine iteB_f (by decide) ?_ | (refine Duo.mk (by first | omega | exact rfl | decide) ?_; intros) | (refine Duo.mk (Clo.mk (by kernel_rfl)) ?_; intros)))
    rename_i r H1 S1 r1 H2 S2
    refine call_of (find_ok (e := e) hs (by omega) (by (refine Sat.to (by assumption) ?_; apply Ent.pick; (focus (repeat (first | exact Sel.here | apply Sel.there))); exact Ent.refl))) ?_
    rintro en H3 ⟨i, found, rfl, hf, S3⟩
    (repeat (first | (refine Step.go ?_; intros) | refine iteB_t (by decide) ?_ | refine iteB_f (by decide) ?_ | (refine Duo.mk (by first | omega | exact rfl | decide) ?_; intros) | (refine Duo.mk (Clo.mk (by kernel_rfl)) ?_; intros)))
    refine iteB_t (by rw [h0]; rfl) ?_
    refine iteB_i (fun h2 => ?_) (fun h2 => ?_)
    · subst h2
      obtain ⟨y, hy, hyk⟩ := hf.hit rfl
      have hil := lt_of hy
      (repeat (first | (refine Step.go ?_; intros) | refine iteB_t (by decide) ?_ | refine iteB_f (by decide) ?_ | (refine Duo.mk (by first | omega | exact rfl | decide) ?_; intros) | (refine Duo.mk (Clo.mk (by kernel_rfl)) ?_; intros)))
      refine call_of (remI_ok (i := i) (n := t.xs.length) (xs := t.xs) (e := y) (c := ic) hy (by omega) (by (refine Sat.to (by assumption) ?_; apply Ent.pick; (focus (repeat (first | exact Sel.here | apply Sel.there))); apply Ent.pick; (focus (repeat (first | exact Sel.here | apply Sel.there))); exact Ent.refl))) ?_
      rintro en H4 ⟨ip', rfl, S4⟩
      (repeat (first | (refine Step.go ?_; intros) | refine iteB_t (by decide) ?_ | refine iteB_f (by decide) ?_ | (refine Duo.mk (by first | omega | exact rfl | decide) ?_; intros) | (refine Duo.mk (Clo.mk (by kernel_rfl)) ?_; intros)))
      have er : remR 0 (inL 1 t) e.k = (some y, t.xs.eraseIdx i) := by
        rw [e0]
        obtain ⟨y', ex1, ex2, _⟩ := cut_at' (l := t.xs) (i := i) hil
        rw [hy] at ex2; cases ex2
        have := remR_hit (P := t.xs.take i) (K := []) (Q := t.xs.drop (i + 1)) (y := y) (k := e.k) (by rw [List.nil_append, ← ex1]; exact hs) hyk
        rw [List.nil_append, List.nil_append, ← ex1] at this
        rw [this, List.eraseIdx_eq_take_drop_succ]
      refine ⟨mkT t.b (t.xs.eraseIdx i) t.ks, by rw [er]; rfl, rfl, hmw _, ?_, by rw [er, hml], ?_⟩
      · show t.xs.length ≤ (t.xs.eraseIdx i).length + 1
        rw [List.length_eraseIdx_of_lt hil]; omega
      · exact tr_close (ip := ip') (ic := ic) (cp := cp) (cc := cc) (n := t.xs.length - 1) (m := t.ks.length) Sat.fin
    · have h2 : found = false := h2
      subst h2
      (repeat (first | (refine Step.go ?_; intros) | refine iteB_t (by decide) ?_ | refine iteB_f (by decide) ?_ | (refine Duo.mk (by first | omega | exact rfl | decide) ?_; intros) | (refine Duo.mk (Clo.mk (by kernel_rfl)) ?_; intros)))
      have er : remR 0 (inL 1 t) e.k = (none, t.xs) := by
        rw [e0]
        unfold remR
        simp only [if_pos]
        rw [get_leaf hf]
        have : delI t.xs e.k = t.xs := by
          conv => lhs; rw [(List.take_append_drop i t.xs).symm]
          rw [del_app, del_lt hf.mem_lo, del_gt hf.mem_hi, List.take_append_drop]
        rw [this]
      refine ⟨t, by rw [er]; rfl, rfl, hw, by omega, by rw [er, e0], ?_⟩
      exact tr_shut (ip := ip) (ic := ic) (cp := cp) (cc := cc) (n := t.xs.length) (m := t.ks.length) Sat.fin
  · (repeat (first | (refine Step.go ?_; intros) | refine iteB_t (by decide) ?_ | refine iteB_f (by decide) ?_ | (refine Duo.mk (by first | omega | exact rfl | decide) ?_; intros) | (refine Duo.mk (Clo.mk (by kernel_rfl)) ?_; intros)))
    refine iteB_t (by rw [h0]; rfl) ?_
    have h1 := h1 rfl
    obtain ⟨z, hz⟩ : ∃ z, t.xs[t.xs.length - 1]? = some z := get_of (by omega)
    (repeat (first | (refine Step.go ?_; intros) | refine iteB_t (by decide) ?_ | refine iteB_f (by decide) ?_ | (refine Duo.mk (by first | omega | exact rfl | decide) ?_; intros) | (refine Duo.mk (Clo.mk (by kernel_rfl)) ?_; intros)))
    refine call_of (popI_ok (n := t.xs.length) (xs := t.xs) (e := z) (c := ic) hz (by omega) (by (refine Sat.to (by assumption) ?_; apply Ent.pick; (focus (repeat (first | exact Sel.here | apply Sel.there))); apply Ent.pick; (focus (repeat (first | exact Sel.here | apply Sel.there))); exact Ent.refl))) ?_
    rintro en H4 ⟨ip', rfl, S4⟩
    (repeat (first | (refine Step.go ?_; intros) | refine iteB_t (by decide) ?_ | refine iteB_f (by decide) ?_ | (refine Duo.mk (by first | omega | exact rfl | decide) ?_; intros) | (refine Duo.mk (Clo.mk (by kernel_rfl)) ?_; intros)))
    have er : remR 2 (inL 1 t) e.k = (some z, t.xs.take (t.xs.length - 1)) := by
      rw [e0]
      unfold remR
      rw [if_neg (by decide), List.getLast?_eq_getElem?, hz, List.dropLast_eq_take]
    refine ⟨mkT t.b (t.xs.take (t.xs.length - 1)) t.ks, by rw [er]; rfl, rfl, hmw _, ?_, by rw [er, hml], ?_⟩
    · show t.xs.length ≤ (t.xs.take (t.xs.length - 1)).length + 1
      rw [List.length_take]; omega
    · exact tr_close (ip := ip') (ic := ic) (cp := cp) (cc := cc) (n := t.xs.length - 1) (m := t.ks.length) Sat.fin
end
end Go.Proofs.Ytdgcdjlomindhaa

set_option linter.unusedVariables false
set_option linter.unusedSimpArgs false
set_option linter.unnecessarySimpa false
namespace Go.Proofs.Ytdgcdjlomindhaa
open Go Go.Den Go.Proofs
/-! Remove. -/
section
variable {c f d : Nat} {e : Itm} {typ : Int}
theorem rem_ok (hd : 2 ≤ d) (hd2 : d < 2 ^ 20) : ∀ (h : Nat) (t : Tr (h + 1)) (e : Itm) (typ : Int), (typ = 0 ∨ typ = 2) → WF d (h + 1) t → Srt (inL (h + 1) t) → (inL (h + 1) t).length < 2 ^ 38 → ((typ = 2 ∨ 0 < h) → 1 ≤ t.xs.length) → ∀ (H : Heap) (l : List HP), Sat H (tr c (h + 1) t :: cx c f :: l) →
    CallsH Try.prog 69 ⟨[.pointer (at_ t.b), .agg ⟨e.cells⟩, .int .i64 ((d - 1 : Nat) : Int), .int .i64 typ]⟩ H (RemPost d c f typ e h t l) := by
  intro h
  induction h with
  | zero =>
    intro t e typ ht hw hs hn h1 H l S
    exact rem_leaf ht hw hs hn (fun h => h1 (.inl h)) S
  | succ h ih0 =>
    intro t e typ ht hw hs hn h1 H l S
    have h1x := h1 (.inr (Nat.succ_pos h))
    have ih : Ih c f d h := fun k e typ ht hw hs hn h1 H l S => ih0 k e typ ht hw hs hn (fun _ => h1) H l S
    have h0 : t.ks.length = t.xs.length + 1 := hw.1 (Nat.succ_pos h)
    refine rem_int ht hw hs hn S ?_
    intro i found r r1 H1 ha S1
    have hi : i ≤ t.xs.length := by rcases ha with ⟨_, h⟩ | ⟨_, h, _⟩; exact h.le; omega
    obtain ⟨k, hk⟩ : ∃ k, t.ks[i]? = some k := get_of (by omega)
    rcases Nat.lt_or_ge k.xs.length d with hsm | hbig
    · obtain ⟨ip, ic, cp, cc, jp, jc, dp, dc, S2⟩ := kid_hd hk S1
      have hI : HasI ((t.ks.map (bk (h + 1))).map at_) (i : Int) (at_ k.b) := .nat (by simp [hk]; rfl)
      refine F69.L0_step ?_
      unfold F69.L0n
      (repeat (first | (refine Step.go ?_; intros) | refine iteB_t (by decide) ?_ | refine iteB_f (by decide) ?_ | (refine Duo.mk (by first | omega | exact rfl | decide) ?_; intros) | (refine Duo.mk (Clo.mk (by kernel_rfl)) ?_; intros)))
      refine Sat.idx (f := ptC) (E := 74) (z := 1) S2 ⟨by omega, by omega, fun kr ko hr => ?_⟩
      subst hr
      (repeat (first | (refine Step.go ?_; intros) | refine iteB_t (by decide) ?_ | refine iteB_f (by decide) ?_ | (refine Duo.mk (by first | omega | exact rfl | decide) ?_; intros) | (refine Duo.mk (Clo.mk (by kernel_rfl)) ?_; intros)))
      refine iteB_t (by simp; omega) ?_
      clear S2
      (repeat (first | (refine Step.go ?_; intros) | refine iteB_t (by decide) ?_ | refine iteB_f (by decide) ?_ | (refine Duo.mk (by first | omega | exact rfl | decide) ?_; intros) | (refine Duo.mk (Clo.mk (by kernel_rfl)) ?_; intros)))
      refine call_of (grow_ok (e := e) (l := pt r (.cells ⟨e.cells⟩ 25) :: pt r1 (.cells ⟨[.int .i64 0, .int .i64 0]⟩ 25) :: l) hd hd2 ht hw hs hn ih ha h1x S1) ?_
      rintro en H2 ⟨t', rfl, a1, a2, a3, a4, S3⟩
      (repeat (first | (refine Step.go ?_; intros) | refine iteB_t (by decide) ?_ | refine iteB_f (by decide) ?_ | (refine Duo.mk (by first | omega | exact rfl | decide) ?_; intros) | (refine Duo.mk (Clo.mk (by kernel_rfl)) ?_; intros)))
      exact ⟨t', rfl, a1, a2, a3, a4, Sat.fin⟩
    · refine rem_big hd hd2 hw hs hn ha hk hbig ih S1 ?_
      intro t' H2 a1 a2 a3 a4 S2
      exact ⟨t', rfl, a1, a2, by omega, a4, S2⟩
end
end Go.Proofs.Ytdgcdjlomindhaa

set_option linter.unusedVariables false
set_option linter.unusedSimpArgs false
set_option linter.unnecessarySimpa false
namespace Go.Proofs.Ytdgcdjlomindhaa
open Go Go.Den Go.Proofs
/-! Delete. -/
theorem del_srt {L : List Itm} {k : Int} (hs : Srt L) : Srt (delI L k) ∧ (delI L k).length = if (getI L k).isSome then L.length - 1 else L.length := by
  refine ⟨List.Pairwise.filter _ hs, ?_⟩
  induction L with
  | nil => rfl
  | cons a L ih =>
    have hs' := List.pairwise_cons.1 hs
    by_cases h : k = a.k
    · rw [get_hit h, del_hit h.symm, del_gt (by intro b hb; have := hs'.1 b hb; omega)]
      simp
    · have e : delI (a :: L) k = a :: delI L k := by unfold delI; rw [List.filter_cons_of_pos (by simp; omega)]
      rw [e, getI, if_neg h, List.length_cons, ih hs'.2, List.length_cons]
      split
      · have : L ≠ [] := by
          intro h2; subst h2
          rename_i h3
          cases h3
        have := List.length_pos_iff.2 this
        omega
      · rfl
section
variable {c f d tb s6 s8 : Nat} {e : Itm} {R : Ending → Heap → Prop}
theorem min_ok {H : Heap} {l : List HP} {w1 w2 w3 : Value} (hd1 : 1 ≤ d) (hd2 : d < 2 ^ 20) (S : Sat H l) (A : At tb (.cells ⟨[.int .i64 (d : Int), w1, w2, w3]⟩ 77) l) : CallsH Try.prog 70 ⟨[.pointer (at_ tb)]⟩ H (Gives (.int .i64 ((d - 1 : Nat) : Int)) H) := by
  have A' : ∀ (l : List HP) [OldAt l H], At tb _ l := atOld (A.get S)
  have S := Sat.start H
  refine F70.calls ?_
  unfold F70.go
  (repeat (first | (refine Step.go ?_; intros) | refine iteB_t (by decide) ?_ | refine iteB_f (by decide) ?_ | (refine Duo.mk (by first | omega | exact rfl | decide) ?_; intros) | (refine Duo.mk (Clo.mk (by kernel_rfl)) ?_; intros)))
  refine ⟨?_, .refl _⟩
  rw [wr (by omega) (by omega)]
  congr 2
  omega
theorem d3_ok {H : Heap} {l : List HP} {n : Int} {b : Bool} {root : Option Addr} {o : Itm} (hn0 : 0 ≤ n) (hn : n < 2 ^ 40) (S : Sat H (hd tb c d n root :: pt s8 (.cells ⟨o.cells⟩ 25) :: pt s6 (.cells ⟨[.int .i64 0, .int .i64 0]⟩ 25) :: l))
    (K : ∀ H1, Sat H1 (hd tb c d (if b then n - 1 else n) root :: l) → R (.returned (.tuple ⟨[.agg ⟨o.cells⟩, .bool b]⟩)) H1) : F48.L3 (at_ tb) s6 s8 b H R := by
  refine F48.L3_step ?_
  unfold F48.L3n
  cases b
  · refine iteB_f (by decide) ?_
    (repeat (first | (refine Step.go ?_; intros) | refine iteB_t (by decide) ?_ | refine iteB_f (by decide) ?_ | (refine Duo.mk (by first | omega | exact rfl | decide) ?_; intros) | (refine Duo.mk (Clo.mk (by kernel_rfl)) ?_; intros)))
    refine K _ ?_
    show Sat _ (hd tb c d n root :: l)
    exact Sat.fin
  · refine iteB_t (by decide) ?_
    (repeat (first | (refine Step.go ?_; intros) | refine iteB_t (by decide) ?_ | refine iteB_f (by decide) ?_ | (refine Duo.mk (by first | omega | exact rfl | decide) ?_; intros) | (refine Duo.mk (Clo.mk (by kernel_rfl)) ?_; intros)))
    refine K _ ?_
    have hs := ‹Sat _ _›
    rw [wr (by omega) (by omega)] at hs
    show Sat _ (hd tb c d (n - 1) root :: l)
    exact Sat.fin
theorem d1_ok {h : Nat} {t : Tr (h + 1)} {H : Heap} {l : List HP} {n : Int} {b : Bool} {o : Itm} (hd1 : 2 ≤ d) (hw : WF d (h + 1) t) (hn : (inL (h + 1) t).length < 2 ^ 38) (hn0 : 0 ≤ n) (hn2 : n < 2 ^ 40)
    (S : Sat H (hd tb c d n (at_ t.b) :: tr c (h + 1) t :: cx c f :: pt s8 (.cells ⟨o.cells⟩ 25) :: pt s6 (.cells ⟨[.int .i64 0, .int .i64 0]⟩ 25) :: l))
    (K : ∀ (h2 : Nat) (t2 : Tr (h2 + 1)) H1, WF d (h2 + 1) t2 → (0 < h2 → 1 ≤ t2.xs.length) → inL (h2 + 1) t2 = inL (h + 1) t → Sat H1 (hd tb c d (if b then n - 1 else n) (at_ t2.b) :: tr c (h2 + 1) t2 :: cx c f :: l) → R (.returned (.tuple ⟨[.agg ⟨o.cells⟩, .bool b]⟩)) H1) :
    F48.L1 (at_ tb) s6 s8 b H R := by
  have hxl := xs_len (g := inL h) hw.or
  have hn' := hn
  rw [inL_succ] at hn'
  have stay : ∀ H, (0 < h → 1 ≤ t.xs.length) → Sat H (hd tb c d n (at_ t.b) :: tr c (h + 1) t :: cx c f :: pt s8 (.cells ⟨o.cells⟩ 25) :: pt s6 (.cells ⟨[.int .i64 0, .int .i64 0]⟩ 25) :: l) → F48.L3 (at_ tb) s6 s8 b H R := by
    intro H hr S
    refine d3_ok (c := c) (d := d) (n := n) (root := at_ t.b) (o := o) (l := tr c (h + 1) t :: cx c f :: l) hn0 hn2 Sat.fin ?_
    intro H1 S1
    exact K h t H1 hw hr rfl S1
  obtain ⟨ip, ic, cp, cc, S0⟩ := tr_open (S.to (Ent.bring (Sel.there Sel.here)))
  refine F48.L1_step ?_
  unfold F48.L1n
  (repeat (first | (refine Step.go ?_; intros) | refine iteB_t (by decide) ?_ | refine iteB_f (by decide) ?_ | (refine Duo.mk (by first | omega | exact rfl | decide) ?_; intros) | (refine Duo.mk (Clo.mk (by kernel_rfl)) ?_; intros)))
  refine iteB_i (fun h1 => ?_) (fun h1 => ?_)
  · have hx0 : t.xs = [] := List.eq_nil_of_length_eq_zero (by simpa using h1)
    (repeat (first | (refine Step.go ?_; intros) | refine iteB_t (by decide) ?_ | refine iteB_f (by decide) ?_ | (refine Duo.mk (by first | omega | exact rfl | decide) ?_; intros) | (refine Duo.mk (Clo.mk (by kernel_rfl)) ?_; intros)))
    refine iteB_i (fun h2 => ?_) (fun h2 => ?_)
    · have hkl : 0 < t.ks.length := by have := of_decide_eq_true h2; omega
      obtain ⟨h', rfl⟩ : ∃ h', h = h' + 1 := by
        cases h with
        | zero => rw [leaf_ks no0 t.ks] at hkl; simp at hkl
        | succ h' => exact ⟨h', rfl⟩
      have h0 : t.ks.length = t.xs.length + 1 := hw.1 (Nat.succ_pos h')
      obtain ⟨k, hk⟩ : ∃ k, t.ks = [k] := by
        rw [hx0] at h0
        match hh : t.ks, h0 with
        | [k], _ => exact ⟨k, rfl⟩
      have hkk := hw.2 k (by rw [hk]; simp)
      clear S
      have hI : HasI ((t.ks.map (bk (h' + 1))).map at_) 0 (at_ k.b) := ⟨by rw [hk]; rfl⟩
      refine F48.L2_step ?_
      unfold F48.L2n
      (repeat (first | (refine Step.go ?_; intros) | refine iteB_t (by decide) ?_ | refine iteB_f (by decide) ?_ | (refine Duo.mk (by first | omega | exact rfl | decide) ?_; intros) | (refine Duo.mk (Clo.mk (by kernel_rfl)) ?_; intros)))
      refine Sat.idx (f := ptC) (E := 74) (z := 1) S0 ⟨by omega, by omega, fun kr ko hr => ?_⟩
      subst hr
      (repeat (first | (refine Step.go ?_; intros) | refine iteB_t (by decide) ?_ | refine iteB_f (by decide) ?_ | (refine Duo.mk (by first | omega | exact rfl | decide) ?_; intros) | (refine Duo.mk (Clo.mk (by kernel_rfl)) ?_; intros)))
      rename_i H1 S1
      have S2 : Sat H1 (nd t.b (at_ c) t.xs (t.ks.map (bk (h' + 1))) :: star (t.ks.map (tr c (h' + 1))) :: _) := nd_close (ip := ip) (ic := ic) (cp := some ⟨kr, ko, none⟩) (cc := cc) (n := t.xs.length) (m := t.ks.length) (S1.to (Ent.pick (by (repeat (first | exact Sel.here | apply Sel.there))) (Ent.pick (by (repeat (first | exact Sel.here | apply Sel.there))) (Ent.pick (by (repeat (first | exact Sel.here | apply Sel.there))) (Ent.pick (by (repeat (first | exact Sel.here | apply Sel.there))) .refl)))))
      refine call_of (cfree_ok (c := c) (f := f) (b := t.b) (xs := t.xs) (ks := t.ks.map (bk (h' + 1))) (by omega) (by simp; omega) (by (refine Sat.to (by assumption) ?_; apply Ent.pick; (focus (repeat (first | exact Sel.here | apply Sel.there))); apply Ent.pick; (focus (repeat (first | exact Sel.here | apply Sel.there))); exact Ent.refl))) ?_
      rintro en H2 ⟨k2, rfl, S3⟩
      (repeat (first | (refine Step.go ?_; intros) | refine iteB_t (by decide) ?_ | refine iteB_f (by decide) ?_ | (refine Duo.mk (by first | omega | exact rfl | decide) ?_; intros) | (refine Duo.mk (Clo.mk (by kernel_rfl)) ?_; intros)))
      have S4 : Sat H2 (star (t.ks.map (tr c (h' + 1))) :: _) := S3.to (Ent.bring (by (repeat (first | exact Sel.here | apply Sel.there))))
      have S5 := S4.to (kid_out' (A := []) (B := []) hk)
      refine d3_ok (c := c) (d := d) (n := n) (root := at_ k.b) (o := o) (l := tr c (h' + 1) k :: cx c f :: l) hn0 hn2 (by (refine Sat.to (by assumption) ?_; apply Ent.pick; (focus (repeat (first | exact Sel.here | apply Sel.there))); apply Ent.pick; (focus (repeat (first | exact Sel.here | apply Sel.there))); apply Ent.pick; (focus (repeat (first | exact Sel.here | apply Sel.there))); apply Ent.pick; (focus (repeat (first | exact Sel.here | apply Sel.there))); apply Ent.pick; (focus (repeat (first | exact Sel.here | apply Sel.there))); exact Fits.out)) ?_
      intro H3 S6
      refine K h' k H3 hkk.1 (fun _ => ?_) ?_ S6
      · have : d ≤ k.xs.length + 1 := hkk.2
        omega
      · show inL (h' + 1) k = inter t.xs (t.ks.map (inL (h' + 1)))
        rw [hx0, hk]
        simp [inter, postL]
    · have hk0 : t.ks = [] := List.eq_nil_of_length_eq_zero (by have := of_decide_eq_false h2; omega)
      refine stay H (fun hp => ?_) S
      have := hw.1 hp
      rw [hk0] at this; simp at this
  · refine stay H (fun _ => ?_) S
    have : t.xs.length ≠ 0 := fun h => by rw [h] at h1; cases h1
    omega
theorem del_ok {H : Heap} {l : List HP} {L : List Itm} (hd1 : 2 ≤ d) (hd2 : d < 2 ^ 20) (hn : L.length < 2 ^ 38) (S : Sat H (btp tb d c L :: cx c f :: l)) :
    CallsH Try.prog 48 ⟨[.pointer (at_ tb), .agg ⟨e.cells⟩, .int .i64 0]⟩ H (fun en H1 => en = .returned (.tuple ⟨[.agg ⟨((getI L e.k).getD ⟨0, 0⟩).cells⟩, .bool (getI L e.k).isSome]⟩) ∧ Sat H1 (btp tb d c (delI L e.k) :: cx c f :: l)) := by
  refine F48.calls ?_
  unfold F48.go
  rcases btp_open S with ⟨rfl, S0⟩ | ⟨h, t, hw, hr, hL, hs, S0⟩
  · clear S
    (repeat (first | (refine Step.go ?_; intros) | refine iteB_t (by decide) ?_ | refine iteB_f (by decide) ?_ | (refine Duo.mk (by first | omega | exact rfl | decide) ?_; intros) | (refine Duo.mk (Clo.mk (by kernel_rfl)) ?_; intros)))
    exact ⟨rfl, btp_none Sat.fin⟩
  · clear S
    have hL' : (inL (h + 1) t).length < 2 ^ 38 := by rw [hL]; exact hn
    have hs' : Srt (inL (h + 1) t) := by rw [hL]; exact hs
    have hdl := del_srt (k := e.k) hs
    (repeat (first | (refine Step.go ?_; intros) | refine iteB_t (by decide) ?_ | refine iteB_f (by decide) ?_ | (refine Duo.mk (by first | omega | exact rfl | decide) ?_; intros) | (refine Duo.mk (Clo.mk (by kernel_rfl)) ?_; intros)))
    refine iteB_f (by rfl) ?_
    (repeat (first | (refine Step.go ?_; intros) | refine iteB_t (by decide) ?_ | refine iteB_f (by decide) ?_ | (refine Duo.mk (by first | omega | exact rfl | decide) ?_; intros) | (refine Duo.mk (Clo.mk (by kernel_rfl)) ?_; intros)))
    rename_i r H1 S1 r1 H2 S2
    obtain ⟨ip, ic, cp, cc, S3⟩ := tr_open (Sat.bring S2 (c := tr c (h + 1) t) (by (repeat (first | exact Sel.here | apply Sel.there))))
    have hxl := (xs_len (g := inL h) hw.or).1
    have hL2 := hL'
    rw [inL_succ] at hL2
    (repeat (first | (refine Step.go ?_; intros) | refine iteB_t (by decide) ?_ | refine iteB_f (by decide) ?_ | (refine Duo.mk (by first | omega | exact rfl | decide) ?_; intros) | (refine Duo.mk (Clo.mk (by kernel_rfl)) ?_; intros)))
    refine iteB_i (fun h1 => ?_) (fun h1 => ?_)
    · have hx0 : t.xs = [] := List.eq_nil_of_length_eq_zero (by simpa using h1)
      have hh : h = 0 := by
        rcases Nat.eq_zero_or_pos h with h2 | h2
        · exact h2
        · have := hr h2; rw [hx0] at this; simp at this
      subst hh
      have hLn : L = [] := by rw [← hL, inL_succ, leaf_ks no0 t.ks, hx0]; rfl
      subst hLn
      clear S3
      (repeat (first | (refine Step.go ?_; intros) | refine iteB_t (by decide) ?_ | refine iteB_f (by decide) ?_ | (refine Duo.mk (by first | omega | exact rfl | decide) ?_; intros) | (refine Duo.mk (Clo.mk (by kernel_rfl)) ?_; intros)))
      refine ⟨rfl, ?_⟩
      show Sat _ (btp tb d c [] :: cx c f :: l)
      exact btp_some (t := t) hw hr hL hs rfl Sat.fin
    · refine F48.L0_step ?_
      unfold F48.L0n
      (repeat (first | (refine Step.go ?_; intros) | refine iteB_t (by decide) ?_ | refine iteB_f (by decide) ?_ | (refine Duo.mk (by first | omega | exact rfl | decide) ?_; intros) | (refine Duo.mk (Clo.mk (by kernel_rfl)) ?_; intros)))
      refine call_of (mutFor_ok (b := t.b) (At.get (r := t.b) (l := _) inferInstance S3)) ?_
      rintro en H3 ⟨rfl, rfl⟩
      clear S1 S3
      (repeat (first | (refine Step.go ?_; intros) | refine iteB_t (by decide) ?_ | refine iteB_f (by decide) ?_ | (refine Duo.mk (by first | omega | exact rfl | decide) ?_; intros) | (refine Duo.mk (Clo.mk (by kernel_rfl)) ?_; intros)))
      repeat' (refine And.intro ?_ ?_)
      all_goals
        (repeat (first | (refine Step.go ?_; intros) | refine iteB_t (by decide) ?_ | refine iteB_f (by decide) ?_ | (refine Duo.mk (by first | omega | exact rfl | decide) ?_; intros) | (refine Duo.mk (Clo.mk (by kernel_rfl)) ?_; intros)))
        have Sa := ‹Sat _ _›
        refine gives_i Sa (min_ok (by omega) hd2 Sa inferInstance) ?_
        intro H4 x4 S4
        (repeat (first | (refine Step.go ?_; intros) | refine iteB_t (by decide) ?_ | refine iteB_f (by decide) ?_ | (refine Duo.mk (by first | omega | exact rfl | decide) ?_; intros) | (refine Duo.mk (Clo.mk (by kernel_rfl)) ?_; intros)))
        refine call_of (rem_ok (c := c) (f := f) hd1 hd2 h t e 0 (.inl rfl) hw hs' hL' (fun hh => hr (hh.resolve_left (by decide))) _ _ (by (refine Sat.to (by assumption) ?_; apply Ent.pick; (focus (repeat (first | exact Sel.here | apply Sel.there))); apply Ent.pick; (focus (repeat (first | exact Sel.here | apply Sel.there))); exact Ent.refl))) ?_
        rintro en H5 ⟨t', rfl, a1, a2, a3, a4, S5⟩
        have er : remR 0 (inL (h + 1) t) e.k = (getI L e.k, delI L e.k) := by rw [hL]; rfl
        rw [er] at a4 ⊢
        (repeat (first | (refine Step.go ?_; intros) | refine iteB_t (by decide) ?_ | refine iteB_f (by decide) ?_ | (refine Duo.mk (by first | omega | exact rfl | decide) ?_; intros) | (refine Duo.mk (Clo.mk (by kernel_rfl)) ?_; intros)))
        rw [← a1] at *
        refine d1_ok (c := c) (f := f) (d := d) (t := t') (n := (L.length : Int)) (o := (getI L e.k).getD ⟨0, 0⟩) (l := l) hd1 a2 (by rw [a4, hdl.2]; split <;> omega) (by omega) (by omega) (by (refine Sat.to (by assumption) ?_; apply Ent.pick; (focus (repeat (first | exact Sel.here | apply Sel.there))); apply Ent.pick; (focus (repeat (first | exact Sel.here | apply Sel.there))); apply Ent.pick; (focus (repeat (first | exact Sel.here | apply Sel.there))); apply Ent.pick; (focus (repeat (first | exact Sel.here | apply Sel.there))); apply Ent.pick; (focus (repeat (first | exact Sel.here | apply Sel.there))); exact Fits.out)) ?_
        intro h2 t2 H6 b1 b2 b3 S6
        refine ⟨rfl, btp_some b1 b2 (b3.trans a4) hdl.1 ?_ S6⟩
        rw [hdl.2]
        split
        · rename_i hsome
          have : L ≠ [] := by
            intro h3; subst h3
            cases hsome
          have := List.length_pos_iff.2 this
          omega
        · rfl
end
end Go.Proofs.Ytdgcdjlomindhaa

set_option linter.unusedVariables false
set_option linter.unusedSimpArgs false
set_option linter.unnecessarySimpa false
namespace Go.Proofs.Ytdgcdjlomindhaa
open Go Go.Den Go.Proofs
/-! Delete as an operation; plain laws of taking out. -/
section
variable {c f d tb : Nat} {e : Itm} {L : List Itm} {H : Heap} {l : List HP}
theorem tdel_ok (hd1 : 2 ≤ d) (hd2 : d < 2 ^ 20) (hn : L.length < 2 ^ 38) (S : Sat H (btp tb d c L :: cx c f :: l)) :
    CallsH Try.prog 33 ⟨[.pointer (at_ tb), .agg ⟨e.cells⟩]⟩ H (fun en H1 => en = .returned (.tuple ⟨[.agg ⟨((getI L e.k).getD ⟨0, 0⟩).cells⟩, .bool (getI L e.k).isSome]⟩) ∧ Sat H1 (btp tb d c (delI L e.k) :: cx c f :: l)) := by
  refine F33.calls ?_
  unfold F33.go
  (repeat (first | (refine Step.go ?_; intros) | refine iteB_t (by decide) ?_ | refine iteB_f (by decide) ?_ | (refine Duo.mk (by first | omega | exact rfl | decide) ?_; intros) | (refine Duo.mk (Clo.mk (by kernel_rfl)) ?_; intros)))
  refine call_of (del_ok (e := e) (f := f) (d := d) (c := c) (L := L) hd1 hd2 hn (by (refine Sat.to (by assumption) ?_; apply Ent.pick; (focus (repeat (first | exact Sel.here | apply Sel.there))); apply Ent.pick; (focus (repeat (first | exact Sel.here | apply Sel.there))); exact Ent.refl))) ?_
  rintro en H3 ⟨rfl, S3⟩
  (repeat (first | (refine Step.go ?_; intros) | refine iteB_t (by decide) ?_ | refine iteB_f (by decide) ?_ | (refine Duo.mk (by first | omega | exact rfl | decide) ?_; intros) | (refine Duo.mk (Clo.mk (by kernel_rfl)) ?_; intros)))
  exact ⟨rfl, Sat.fin⟩
end
theorem good2 {t k v ff u : Int} {g : Bool} : Good ⟨2, t, ⟨k, v⟩, ff, u, 0, g⟩ := by
  intro tb d c f L H l hd hd2 hn S
  show CallsH Try.prog 23 ⟨[.pointer (at_ tb), .agg ⟨[.int .i64 2, .int .i64 t, .int .i64 k, .int .i64 v, .int .i64 ff, .int .i64 u, .int .i64 0, .bool g]⟩]⟩ H _
  refine F23.calls ?_
  unfold F23.go
  (repeat (first | (refine Step.go ?_; intros) | refine iteB_t (by decide) ?_ | refine iteB_f (by decide) ?_ | (refine Duo.mk (by first | omega | exact rfl | decide) ?_; intros) | (refine Duo.mk (Clo.mk (by kernel_rfl)) ?_; intros)))
  refine call_of (tdel_ok (e := ⟨k, v⟩) (d := d) (c := c) (f := f) (L := L) hd hd2 (by omega) (by (refine Sat.to (by assumption) ?_; apply Ent.pick; (focus (repeat (first | exact Sel.here | apply Sel.there))); apply Ent.pick; (focus (repeat (first | exact Sel.here | apply Sel.there))); exact Ent.refl))) ?_
  rintro en H1 ⟨rfl, S1⟩
  (repeat (first | (refine Step.go ?_; intros) | refine iteB_t (by decide) ?_ | refine iteB_f (by decide) ?_ | (refine Duo.mk (by first | omega | exact rfl | decide) ?_; intros) | (refine Duo.mk (Clo.mk (by kernel_rfl)) ?_; intros)))
  refine ⟨⟨_, _, ⟨_, _⟩, [], none, 0, 0⟩, rfl, rfl, ?_⟩
  refine Sat.to (by assumption) (Ent.slNil ?_)
  apply Ent.pick; (focus (repeat (first | exact Sel.here | apply Sel.there)))
  apply Ent.pick; (focus (repeat (first | exact Sel.here | apply Sel.there)))
  exact Fits.out
theorem runL_srt : ∀ (xs : List Itm) (L : List Itm), Srt L → Srt (runL L (xs.map putOp)) ∧ (runL L (xs.map putOp)).length ≤ L.length + xs.length
  | [], L, hs => ⟨hs, Nat.le_refl _⟩
  | e :: xs, L, hs => by
    have e1 : runL L ((e :: xs).map putOp) = runL (put L e) (xs.map putOp) := rfl
    rw [e1]
    obtain ⟨a, b⟩ := runL_srt xs (put L e) (put_srt hs).1
    exact ⟨a, by have := put_len L e; rw [List.length_cons]; omega⟩
theorem get_some {L : List Itm} {k : Int} {y : Itm} (h : getI L k = some y) : ∃ A B, L = A ++ y :: B ∧ y.k = k := by
  induction L with
  | nil => cases h
  | cons a L ih =>
    rw [getI] at h
    split at h
    · rename_i h1
      cases h
      exact ⟨[], L, rfl, h1.symm⟩
    · obtain ⟨A, B, e, hk⟩ := ih h
      exact ⟨a :: A, B, by rw [e]; rfl, hk⟩
theorem put_del {L : List Itm} {k : Int} {y : Itm} (hs : Srt L) (h : getI L k = some y) : put (delI L k) y = L ∧ y.k = k := by
  obtain ⟨A, B, rfl, hk⟩ := get_some h
  obtain ⟨h1, h2⟩ := hs.item
  refine ⟨?_, hk⟩
  rw [del_app, del_lt (by rw [← hk]; exact h1), del_hit hk, del_gt (by rw [← hk]; exact h2), put_mid h1 h2]
theorem get_del {L : List Itm} {k : Int} : getI (delI L k) k = none := by
  induction L with
  | nil => rfl
  | cons a L ih =>
    by_cases h : a.k = k
    · rw [del_hit h]; exact ih
    · have e : delI (a :: L) k = a :: delI L k := by unfold delI; rw [List.filter_cons_of_pos (by simpa using h)]
      rw [e, getI, if_neg (fun h2 => h h2.symm)]
      exact ih
end Go.Proofs.Ytdgcdjlomindhaa

set_option linter.unusedVariables false
set_option linter.unusedSimpArgs false
set_option linter.unnecessarySimpa false
namespace Go.Proofs.Ytdgcdjlomindhaa
open Go Go.Den Go.Proofs
/-! FnBTreeDeletes. -/
def asks1 (k : Int) : List Op := [⟨10, 0, ⟨0, 0⟩, 0, 0, 0, false⟩, ⟨3, 0, ⟨k, 0⟩, 0, 0, 0, false⟩, ⟨2, 0, ⟨k, 0⟩, 0, 0, 0, false⟩, ⟨4, 0, ⟨k, 0⟩, 0, 0, 0, false⟩, ⟨10, 0, ⟨0, 0⟩, 0, 0, 0, false⟩, ⟨9, 0, ⟨0, 0⟩, 0, 0, 0, false⟩]
def asks2 (k : Int) (y : Itm) : List Op := [⟨2, 0, ⟨k, 0⟩, 0, 0, 0, false⟩, ⟨1, 0, y, 0, 0, 0, false⟩, ⟨10, 0, ⟨0, 0⟩, 0, 0, 0, false⟩]
theorem asks1_good {k : Int} : ∀ o ∈ asks1 k, Good o ∧ o.tree = 0 ∧ o.kind ≠ 18 := by
  intro o ho
  simp only [asks1, List.mem_cons, List.not_mem_nil, or_false] at ho
  rcases ho with rfl | rfl | rfl | rfl | rfl | rfl
  · exact ⟨good10, rfl, by show (10 : Int) ≠ 18; decide⟩
  · exact ⟨good3, rfl, by show (3 : Int) ≠ 18; decide⟩
  · exact ⟨good2, rfl, by show (2 : Int) ≠ 18; decide⟩
  · exact ⟨good4, rfl, by show (4 : Int) ≠ 18; decide⟩
  · exact ⟨good10, rfl, by show (10 : Int) ≠ 18; decide⟩
  · exact ⟨good9, rfl, by show (9 : Int) ≠ 18; decide⟩
theorem asks2_good {k : Int} {y : Itm} : ∀ o ∈ asks2 k y, Good o ∧ o.tree = 0 ∧ o.kind ≠ 18 := by
  intro o ho
  simp only [asks2, List.mem_cons, List.not_mem_nil, or_false] at ho
  rcases ho with rfl | rfl | rfl
  · exact ⟨good2, rfl, by show (2 : Int) ≠ 18; decide⟩
  · exact ⟨good1 (k := y.k) (v := y.v), rfl, by show (1 : Int) ≠ 18; decide⟩
  · exact ⟨good10, rfl, by show (10 : Int) ≠ 18; decide⟩
theorem asks1_run (L : List Itm) (k : Int) : runA L (asks1 k) = [(false, 0, ⟨0, 0⟩, L), ((getI L k).isSome, 0, (getI L k).getD ⟨0, 0⟩, []), ((getI L k).isSome, 0, (getI L k).getD ⟨0, 0⟩, []), ((getI (delI L k) k).isSome, 0, ⟨0, 0⟩, []), (false, 0, ⟨0, 0⟩, delI L k), (false, ((delI L k).length : Int), ⟨0, 0⟩, [])] := rfl
theorem asks2_run (L : List Itm) (k : Int) (y : Itm) : runA L (asks2 k y) = [((getI L k).isSome, 0, (getI L k).getD ⟨0, 0⟩, []), ((getI (delI L k) y.k).isSome, 0, (getI (delI L k) y.k).getD ⟨0, 0⟩, []), (false, 0, ⟨0, 0⟩, put (delI L k) y)] := rfl
section
variable {p : Option Addr} {n c d : Nat} {H0 : Heap} {key : Int}
theorem left_loop {H5 : Heap} {L : List Itm} {N : Nat} {pl : Option Addr} {c0 s7 ro oo ka : Nat} {R : Ending → Heap → Prop} (hLl : L.length = N) (hN : N < 2 ^ 36) (hR : RowsAt Itm.cells 2 H5 pl L)
    (K : ∀ q k H1, Sat H1 [sI q (delI L key).length k (delI L key), old H5] → F3.L1 (d : Int) p n c key s7 (some ⟨ro, oo, none⟩) 6 ka q (delI L key).length k pl N c0 (N : Int) (N : Int) H1 R) :
    ∀ (r i : Nat) (q : Option Addr) (k : Nat) (H : Heap), i + r = N → Sat H [sI q (delI (L.take i) key).length k (delI (L.take i) key), old H5] →
      F3.L1 (d : Int) p n c key s7 (some ⟨ro, oo, none⟩) 6 ka q (delI (L.take i) key).length k pl N c0 (N : Int) (i : Int) H R := by
  have RC : RowsC H5 pl Itm.cells 2 L := ⟨hR⟩
  intro r
  induction r with
  | zero =>
    intro i q k H hi S
    have hi : i = N := by omega
    subst hi
    rw [List.take_of_length_le (by omega)] at S ⊢
    exact K q k H S
  | succ r ih =>
    intro i q k H hi S
    obtain ⟨x, hx1⟩ : ∃ x, L[i]? = some x := get_of (by omega)
    have hI : HasI L (i : Int) x := .nat hx1
    have next : ∀ q k H, Sat H [sI q (delI (L.take (i + 1)) key).length k (delI (L.take (i + 1)) key), old H5] → F3.L3 (d : Int) p n c key s7 (some ⟨ro, oo, none⟩) 6 ka q (delI (L.take (i + 1)) key).length k pl N c0 (N : Int) (i : Int) H R := by
      intro q k H S
      refine F3.L3_step ?_
      unfold F3.L3n
      rw [wadd (by omega)]
      exact ih (i + 1) q k H (by omega) S
    have hdl : (delI (L.take i) key).length ≤ L.length := Nat.le_trans (List.length_filter_le _ _) (by simp; omega)
    refine F3.L1_step ?_
    unfold F3.L1n
    refine iteB_t (by simp; omega) ?_
    refine RC.idx hLl ⟨by omega, by omega, fun a ha => ?_⟩
    subst ha
    (repeat (first | (refine Step.go ?_; intros) | refine iteB_t (by decide) ?_ | refine iteB_f (by decide) ?_ | (refine Duo.mk (by first | omega | exact rfl | decide) ?_; intros) | (refine Duo.mk (Clo.mk (by kernel_rfl)) ?_; intros)))
    refine iteB_i (fun h1 => ?_) (fun h1 => ?_)
    · have h1 : x.k ≠ key := by simpa using h1
      (repeat (first | (refine Step.go ?_; intros) | refine iteB_t (by decide) ?_ | refine iteB_f (by decide) ?_ | (refine Duo.mk (by first | omega | exact rfl | decide) ?_; intros) | (refine Duo.mk (Clo.mk (by kernel_rfl)) ?_; intros)))
      rename_i q' k' H5' S5
      have e : delI (L.take i) key ++ [(⟨x.k, x.v⟩ : Itm)] = delI (L.take (i + 1)) key := by
        rw [take_snoc hx1, del_app]
        have : delI [x] key = [x] := by unfold delI; rw [List.filter_cons_of_pos (by simpa using h1)]; rfl
        rw [this]
      have el : (delI (L.take i) key).length + 1 = (delI (L.take (i + 1)) key).length := by rw [← e]; simp
      rw [e, el] at S5
      rw [el]
      exact next q' k' H5' Sat.fin
    · have h1 : x.k = key := by simpa using h1
      have e : delI (L.take i) key = delI (L.take (i + 1)) key := by
        rw [take_snoc hx1, del_app]
        have : delI [x] key = [] := by rw [del_hit h1]; rfl
        rw [this, List.append_nil]
      have Sx := ‹Sat _ _›
      rw [e] at Sx ⊢
      exact next q k _ Sat.fin
end
end Go.Proofs.Ytdgcdjlomindhaa

set_option linter.unusedVariables false
set_option linter.unusedSimpArgs false
set_option linter.unnecessarySimpa false
namespace Go.Proofs.Ytdgcdjlomindhaa
open Go Go.Den Go.Proofs
/-! FnBTreeDeletes: behind the first answers. -/
section
variable {p : Option Addr} {n c d : Nat} {H0 : Heap} {key : Int}
/-- Taken out and put in again. -/
theorem again {xs L : List Itm} {H5 H : Heap} {s7 ro oo ka : Nat} {y0 y1 y2 y3 y4 y5 : Ans} (hn1 : xs.length = n) (hn : n < 2 ^ 30) (hd1 : 2 ≤ d) (hd2 : d ≤ 64) (hL : runL [] (xs.map putOp) = L) (hs : Srt L) (hLn : L.length ≤ n)
    (h7 : H[s7]? = some (.cells ⟨[.int .i64 key, .int .i64 0]⟩ 25)) (hx : ExtH H0 H) (hP : RowsAt Itm.cells 2 H p xs) (hA : AnsAt H (some ⟨ro, oo, none⟩) [y0, y1, y2, y3, y4, y5]) (e0 : y0.L = L) (e1 : y1.abs = ((getI L key).isSome, 0, (getI L key).getD ⟨0, 0⟩, [])) :
    F3.L2 (d : Int) p n c s7 (some ⟨ro, oo, none⟩) 6 ka H (Gives (.bool true) H0) := by
  have A7 : ∀ (l : List HP) [OldAt l H], At s7 _ l := atOld h7
  have RA : RowsC H (some ⟨ro, oo, none⟩) ansC 6 [y0, y1, y2, y3, y4, y5] := ⟨hA.rows⟩
  have hI1 : HasI [y0, y1, y2, y3, y4, y5] (1 : Int) y1 := ⟨rfl⟩
  have hI0 : HasI [y0, y1, y2, y3, y4, y5] (0 : Int) y0 := ⟨rfl⟩
  have k1 : y1.ok = (getI L key).isSome := congrArg (fun (x : AA) => x.1) e1
  have k1e : y1.e = (getI L key).getD ⟨0, 0⟩ := congrArg (fun (x : AA) => x.2.2.1) e1
  have S := Sat.start H
  refine F3.L2_step ?_
  unfold F3.L2n
  (repeat (first | (refine Step.go ?_; intros) | refine iteB_t (by decide) ?_ | refine iteB_f (by decide) ?_ | (refine Duo.mk (by first | omega | exact rfl | decide) ?_; intros) | (refine Duo.mk (Clo.mk (by kernel_rfl)) ?_; intros)))
  refine iteB_i (fun h1 => live_end hx S (fun H1 x1 => ⟨rfl, hx.trans x1⟩)) (fun h1 => ?_)
  have h1 : y1.ok = true := by simpa using h1
  obtain ⟨y, hy⟩ : ∃ y, getI L key = some y := Option.isSome_iff_exists.1 (by rw [← k1]; exact h1)
  have hye : y1.e = y := by rw [k1e, hy]; rfl
  obtain ⟨hpd, hyk⟩ := put_del hs hy
  (repeat (first | (refine Step.go ?_; intros) | refine iteB_t (by decide) ?_ | refine iteB_f (by decide) ?_ | (refine Duo.mk (by first | omega | exact rfl | decide) ?_; intros) | (refine Duo.mk (Clo.mk (by kernel_rfl)) ?_; intros)))
  rename_i r H2 S2
  rw [hye] at S2
  have S3 : Sat H2 (sO (some ⟨r, 0, none⟩) 3 3 (asks2 key y) :: [old H]) := S2.to (Ent.slClose (f := Op.cells) (xs := asks2 key y) (pre := []) (sp := []) (z := 8) rfl (fun x _ => rfl) (by omega) rfl (by simp))
  clear S2
  have hx2 : ExtH H H2 := S3.old (by simp)
  refine grow_p S3 (tail_ok (d := d) (ops := asks2 key y) (hP.ext hx2) (S3.rowsAt (.head _)) hn1 rfl hn (by decide) hd1 hd2 asks2_good) ?_
  rintro ⟨pb, kb, bs1⟩ H3 hb hx3 S4
  dsimp only at hb ⊢
  have S4 : Sat H3 (sA pb 3 kb bs1 :: star (bs1.map aP) :: sO (some ⟨r, 0, none⟩) 3 3 (asks2 key y) :: [old H]) := S4
  rw [hL, asks2_run, hyk, get_del, hpd] at hb
  have hB := ansAt_of S4 (p := pb) (n := 3) (c := kb) (ys := bs1) (by simp) (by simp)
  have hbl : bs1.length = 3 := (Sat.slLen S4 (.head _)).1
  obtain ⟨rb, ob, rfl⟩ := Sat.slSome S4 (.head _) (by omega)
  obtain ⟨z0, t0, rfl, l0⟩ := len_cons hbl
  obtain ⟨z1, t1, rfl, l1⟩ := len_cons l0
  obtain ⟨z2, t2, rfl, l2⟩ := len_cons l1
  obtain rfl := len_nil l2
  simp only [List.map_cons, List.map_nil, List.cons.injEq, and_true] at hb
  obtain ⟨f0, f1, f2⟩ := hb
  have g1 : z1.ok = false := congrArg (fun (x : AA) => x.1) f1
  have g2 : z2.L = L := congrArg (fun (x : AA) => x.2.2.2) f2
  have hxx : ExtH H H3 := S4.old (by simp)
  have RA3 : RowsC H3 (some ⟨ro, oo, none⟩) ansC 6 [y0, y1, y2, y3, y4, y5] := ⟨hA.rows.ext hxx⟩
  have RB3 : RowsC H3 (some ⟨rb, ob, none⟩) ansC 6 [z0, z1, z2] := ⟨hB.rows⟩
  have hJ1 : HasI [z0, z1, z2] (1 : Int) z1 := ⟨rfl⟩
  have hJ2 : HasI [z0, z1, z2] (2 : Int) z2 := ⟨rfl⟩
  clear S S3 S4
  have S := Sat.start H3
  (repeat (first | (refine Step.go ?_; intros) | refine iteB_t (by decide) ?_ | refine iteB_f (by decide) ?_ | (refine Duo.mk (by first | omega | exact rfl | decide) ?_; intros) | (refine Duo.mk (Clo.mk (by kernel_rfl)) ?_; intros)))
  refine iteB_t (by rw [g1]; rfl) ?_
  (repeat (first | (refine Step.go ?_; intros) | refine iteB_t (by decide) ?_ | refine iteB_f (by decide) ?_ | (refine Duo.mk (by first | omega | exact rfl | decide) ?_; intros) | (refine Duo.mk (Clo.mk (by kernel_rfl)) ?_; intros)))
  have q2 := hB.lists z2 (by simp)
  have q0 := (hA.ext hxx).lists y0 (by simp)
  rw [g2] at q2
  rw [e0] at q0
  refine gives_i S (eq_ok q2.1 q0.1 q2.2 q0.2 (by omega)) ?_
  intro H4 hx4 S5
  rw [decide_eq_true rfl]
  (repeat (first | (refine Step.go ?_; intros) | refine iteB_t (by decide) ?_ | refine iteB_f (by decide) ?_ | (refine Duo.mk (by first | omega | exact rfl | decide) ?_; intros) | (refine Duo.mk (Clo.mk (by kernel_rfl)) ?_; intros)))
  exact live_end ((hx.trans hxx).trans hx4) S5 (fun H5 x5 => ⟨rfl, ((hx.trans hxx).trans hx4).trans x5⟩)
theorem deletes_ok {xs : List Itm} {s0 : Int} (hP : RowsAt Itm.cells 2 H0 p xs) (hn1 : xs.length = n) :
    CallsH Try.prog 3 ⟨[.int .i64 s0, .slice p n c, .int .i64 key]⟩ H0 (Gives (.bool true) H0) := by
  have S := Sat.start H0
  refine F3.calls ?_
  unfold F3.go
  refine iteB_i (fun h1 => ⟨rfl, .refl _⟩) (fun h1 => ?_)
  refine iteB_i (fun h3 => live_end (.refl _) S (fun H1 x1 => ⟨rfl, x1⟩)) (fun h3 => ?_)
  refine iteB_i (fun h4 => live_end (.refl _) S (fun H1 x1 => ⟨rfl, x1⟩)) (fun h4 => ?_)
  refine iteB_i (fun h5 => live_end (.refl _) S (fun H1 x1 => ⟨rfl, x1⟩)) (fun h5 => ?_)
  have h3 : ¬ s0 < 2 := of_decide_eq_false h3
  have h4 : ¬ s0 > 64 := of_decide_eq_false h4
  have h5 : n ≤ 600 := by have := of_decide_eq_false h5; omega
  obtain ⟨d, rfl⟩ : ∃ d : Nat, s0 = d := ⟨s0.toNat, by omega⟩
  have hd1 : 2 ≤ d := by omega
  have hd2 : d ≤ 64 := by omega
  obtain ⟨hs, hLn⟩ := runL_srt xs [] List.Pairwise.nil
  generalize hL : runL [] (xs.map putOp) = L at hs hLn
  simp only [List.length_nil, Nat.zero_add] at hLn
  have hdl := del_srt (k := key) hs
  refine F3.L0_step ?_
  unfold F3.L0n
  (repeat (first | (refine Step.go ?_; intros) | refine iteB_t (by decide) ?_ | refine iteB_f (by decide) ?_ | (refine Duo.mk (by first | omega | exact rfl | decide) ?_; intros) | (refine Duo.mk (Clo.mk (by kernel_rfl)) ?_; intros)))
  rename_i s7 H1 S1 H2 S2 H3 S3 r H4 S4
  have S5 : Sat H4 (sO (some ⟨r, 0, none⟩) 6 6 (asks1 key) :: pt s7 (.cells ⟨[.int .i64 key, .int .i64 0]⟩ 25) :: [old H0]) := S4.to (Ent.slClose (f := Op.cells) (xs := asks1 key) (pre := []) (sp := []) (z := 8) rfl (fun x _ => rfl) (by omega) rfl (by simp))
  clear S1 S2 S3 S4
  have hx4 : ExtH H0 H4 := S5.old (by simp)
  refine grow_p S5 (tail_ok (d := d) (ops := asks1 key) (hP.ext hx4) (S5.rowsAt (.head _)) hn1 rfl (by omega) (by decide) hd1 hd2 asks1_good) ?_
  rintro ⟨pa, ka, as1⟩ H5 ha hx5 S6
  dsimp only at ha ⊢
  have S6 : Sat H5 (sA pa 6 ka as1 :: star (as1.map aP) :: sO (some ⟨r, 0, none⟩) 6 6 (asks1 key) :: pt s7 (.cells ⟨[.int .i64 key, .int .i64 0]⟩ 25) :: [old H0]) := S6
  rw [hL, asks1_run, get_del] at ha
  have hA := ansAt_of S6 (p := pa) (n := 6) (c := ka) (ys := as1) (by simp) (by simp)
  have hal : as1.length = 6 := (Sat.slLen S6 (.head _)).1
  have h7 : H5[s7]? = some (.cells ⟨[.int .i64 key, .int .i64 0]⟩ 25) := S6.at_ (by simp)
  obtain ⟨r1, o1, rfl⟩ := Sat.slSome S6 (.head _) (by omega)
  obtain ⟨y0, t0, rfl, l0⟩ := len_cons hal
  obtain ⟨y1, t1, rfl, l1⟩ := len_cons l0
  obtain ⟨y2, t2, rfl, l2⟩ := len_cons l1
  obtain ⟨y3, t3, rfl, l3⟩ := len_cons l2
  obtain ⟨y4, t4, rfl, l4⟩ := len_cons l3
  obtain ⟨y5, t5, rfl, l5⟩ := len_cons l4
  obtain rfl := len_nil l5
  simp only [List.map_cons, List.map_nil, List.cons.injEq, and_true] at ha
  obtain ⟨f0, f1, f2, f3, f4, f5⟩ := ha
  have e0 : y0.L = L := congrArg (fun (x : AA) => x.2.2.2) f0
  have e4 : y4.L = delI L key := congrArg (fun (x : AA) => x.2.2.2) f4
  have k1 : y1.ok = (getI L key).isSome := congrArg (fun (x : AA) => x.1) f1
  have k2 : y2.ok = (getI L key).isSome := congrArg (fun (x : AA) => x.1) f2
  have k1e : y1.e = (getI L key).getD ⟨0, 0⟩ := congrArg (fun (x : AA) => x.2.2.1) f1
  have k2e : y2.e = (getI L key).getD ⟨0, 0⟩ := congrArg (fun (x : AA) => x.2.2.1) f2
  have k3 : y3.ok = false := congrArg (fun (x : AA) => x.1) f3
  have k5 : y5.n = ((delI L key).length : Int) := congrArg (fun (x : AA) => x.2.1) f5
  have q0 := hA.lists y0 (by simp)
  have q4 := hA.lists y4 (by simp)
  rw [e0] at q0
  rw [e4] at q4
  have hx0 : ExtH H0 H5 := S6.old (by simp)
  have RA : RowsC H5 (some ⟨r1, o1, none⟩) ansC 6 [y0, y1, y2, y3, y4, y5] := ⟨hA.rows⟩
  have hI0 : HasI [y0, y1, y2, y3, y4, y5] (0 : Int) y0 := ⟨rfl⟩
  have hI1 : HasI [y0, y1, y2, y3, y4, y5] (1 : Int) y1 := ⟨rfl⟩
  have hI2 : HasI [y0, y1, y2, y3, y4, y5] (2 : Int) y2 := ⟨rfl⟩
  have hI3 : HasI [y0, y1, y2, y3, y4, y5] (3 : Int) y3 := ⟨rfl⟩
  have hI4 : HasI [y0, y1, y2, y3, y4, y5] (4 : Int) y4 := ⟨rfl⟩
  have hI5 : HasI [y0, y1, y2, y3, y4, y5] (5 : Int) y5 := ⟨rfl⟩
  clear S S5 S6
  have S := Sat.start H5
  (repeat (first | (refine Step.go ?_; intros) | refine iteB_t (by decide) ?_ | refine iteB_f (by decide) ?_ | (refine Duo.mk (by first | omega | exact rfl | decide) ?_; intros) | (refine Duo.mk (Clo.mk (by kernel_rfl)) ?_; intros)))
  rw [← q0.2, show (0 : Int) = ((0 : Nat) : Int) from rfl]
  refine left_loop (L := L) rfl (by omega) q0.1 ?_ L.length 0 none 0 H5 (by omega) (S.to (.slNil .refl))
  intro q k H6 S7
  have hx6 : ExtH H5 H6 := S7.old (by simp)
  have RA6 : RowsC H6 (some ⟨r1, o1, none⟩) ansC 6 [y0, y1, y2, y3, y4, y5] := ⟨hA.rows.ext hx6⟩
  have hD := S7.rowsAt (.head _)
  clear S S7
  have S := Sat.start H6
  refine F3.L1_step ?_
  unfold F3.L1n
  refine iteB_f (by simp) ?_
  (repeat (first | (refine Step.go ?_; intros) | refine iteB_t (by decide) ?_ | refine iteB_f (by decide) ?_ | (refine Duo.mk (by first | omega | exact rfl | decide) ?_; intros) | (refine Duo.mk (Clo.mk (by kernel_rfl)) ?_; intros)))
  refine iteB_f (by rw [k1, k2]; simp) ?_
  (repeat (first | (refine Step.go ?_; intros) | refine iteB_t (by decide) ?_ | refine iteB_f (by decide) ?_ | (refine Duo.mk (by first | omega | exact rfl | decide) ?_; intros) | (refine Duo.mk (Clo.mk (by kernel_rfl)) ?_; intros)))
  refine itm_eq (a := y1.e) (b := y2.e) ?_
  refine iteB_f (by rw [k1e, k2e]; simp) ?_
  (repeat (first | (refine Step.go ?_; intros) | refine iteB_t (by decide) ?_ | refine iteB_f (by decide) ?_ | (refine Duo.mk (by first | omega | exact rfl | decide) ?_; intros) | (refine Duo.mk (Clo.mk (by kernel_rfl)) ?_; intros)))
  refine iteB_f k3 ?_
  (repeat (first | (refine Step.go ?_; intros) | refine iteB_t (by decide) ?_ | refine iteB_f (by decide) ?_ | (refine Duo.mk (by first | omega | exact rfl | decide) ?_; intros) | (refine Duo.mk (Clo.mk (by kernel_rfl)) ?_; intros)))
  refine gives_i S (eq_ok (q4.1.ext hx6) hD q4.2 rfl (by have := q4.2; rw [hdl.2] at this; split at this <;> omega)) ?_
  intro H7 hx7 S8
  rw [decide_eq_true rfl]
  have RA7 : RowsC H7 (some ⟨r1, o1, none⟩) ansC 6 [y0, y1, y2, y3, y4, y5] := ⟨(hA.rows.ext hx6).ext hx7⟩
  clear S S8
  have S := Sat.start H7
  (repeat (first | (refine Step.go ?_; intros) | refine iteB_t (by decide) ?_ | refine iteB_f (by decide) ?_ | (refine Duo.mk (by first | omega | exact rfl | decide) ?_; intros) | (refine Duo.mk (Clo.mk (by kernel_rfl)) ?_; intros)))
  rw [k5]
  refine iteB_f (by simp) ?_
  (repeat (first | (refine Step.go ?_; intros) | refine iteB_t (by decide) ?_ | refine iteB_f (by decide) ?_ | (refine Duo.mk (by first | omega | exact rfl | decide) ?_; intros) | (refine Duo.mk (Clo.mk (by kernel_rfl)) ?_; intros)))
  rw [← q0.2]
  refine iteB_f ?_ ?_
  · rw [k1, hdl.2]
    cases hg : getI L key with
    | none => simp
    | some y =>
      have : L ≠ [] := by intro h; rw [h] at hg; cases hg
      have := List.length_pos_iff.2 this
      simp
      omega
  · have hx07 : ExtH H0 H7 := (hx0.trans hx6).trans hx7
    exact again (H5 := H5) hn1 (by omega) hd1 hd2 hL hs (by omega) ((hx6.trans hx7).block_some h7) hx07 (hP.ext hx07) (hA.ext (hx6.trans hx7)) e0 f1
end
end Go.Proofs.Ytdgcdjlomindhaa
