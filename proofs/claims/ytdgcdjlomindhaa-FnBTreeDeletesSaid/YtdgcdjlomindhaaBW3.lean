/- What functions of this seat do, each proved by a walk; no condition. -/
import Derived.Test.YtdgcdjlomindhaaBW1
import Derived.Test.YtdgcdjlomindhaaDenD
set_option linter.unusedVariables false
set_option linter.unusedSimpArgs false
set_option linter.unnecessarySimpa false
namespace Go.Proofs.Ytdgcdjlomindhaa
open Go Go.Den Go.Proofs
/-! A child that is full is split. -/
theorem starApp {A B m : List HP} : Ent (star (A ++ B) :: m) (star A :: star B :: m) := fun k x => by
  have h := SatP.star_iff.1 x
  rw [List.append_assoc] at h
  have h2 : SatP k (A ++ (star B :: m)) := by
    have key : ∀ (A : List HP) (k : PH), SatP k (A ++ (B ++ m)) → SatP k (A ++ (star B :: m)) := by
      intro A
      induction A with
      | nil => intro k h; exact SatP.star_iff.2 h
      | cons a A ih => intro k h; exact SatP.cons_mono (fun q x => ih q x) h
    exact key A k h
  exact SatP.star_iff.2 h2
theorem appStar {A B m : List HP} : Ent (star A :: star B :: m) (star (A ++ B) :: m) := fun k x => by
  have h := SatP.star_iff.1 x
  have h2 : SatP k (A ++ (B ++ m)) := by
    have key : ∀ (A : List HP) (k : PH), SatP k (A ++ (star B :: m)) → SatP k (A ++ (B ++ m)) := by
      intro A
      induction A with
      | nil => intro k h; exact (SatP.star_iff (l := B) (m := m)).1 h
      | cons a A ih => intro k h; exact SatP.cons_mono (fun q x => ih q x) h
    exact key A k h
  rw [← List.append_assoc] at h2
  exact SatP.star_iff.2 h2
theorem starCut {α : Type} {ks : List α} {F : α → HP} {n : Nat} {m : List HP} : Ent (star (ks.map F) :: m) (star ((ks.take n).map F) :: star ((ks.drop n).map F) :: m) := by
  have := starApp (A := (ks.take n).map F) (B := (ks.drop n).map F) (m := m)
  rwa [← List.map_append, List.take_append_drop] at this
def mkT {h : Nat} (b : Nat) (xs : List Itm) (ks : List (Tr h)) : Tr (h + 1) := (⟨b, xs, ks⟩ : Nd (Tr h))
section
variable {H : Heap} {l : List HP} {c f i d h : Nat}
/-- The tree whose child at a place is split at a place. -/
def splitK (t : Tr (h + 1 + 1)) (i m b2 : Nat) (k : Tr (h + 1)) (x : Itm) : Tr (h + 1 + 1) :=
  mkT t.b (t.xs.take i ++ x :: t.xs.drop i) (t.ks.take i ++ mkT k.b (k.xs.take m) (k.ks.take (m + 1)) :: mkT b2 (k.xs.drop (m + 1)) (k.ks.drop (m + 1)) :: t.ks.drop (i + 1))
theorem msc_ok {t : Tr (h + 1 + 1)} {k : Tr (h + 1)} {M : Nat} (hw : WF d (h + 1 + 1) t) (hi : i ≤ t.xs.length) (hk : t.ks[i]? = some k) (hn : (inL (h + 1 + 1) t).length < 2 ^ 39) (hM0 : 0 < M) (hM : M < 2 ^ 39) (S : Sat H (tr c (h + 1 + 1) t :: cx c f :: l)) :
    CallsH Try.prog 67 ⟨[.pointer (at_ t.b), .int .i64 (i : Int), .int .i64 (M : Int)]⟩ H (fun en H1 => (k.xs.length < M ∧ en = .returned (.bool false) ∧ Sat H1 (tr c (h + 1 + 1) t :: cx c f :: l)) ∨
      (M ≤ k.xs.length ∧ ∃ b2 x, k.xs[M / 2]? = some x ∧ en = .returned (.bool true) ∧ Sat H1 (tr c (h + 1 + 1) (splitK t i (M / 2) b2 k x) :: cx c f :: l))) := by
  have hxl := xs_len (g := inL (h + 1)) hw.or
  rw [inL_succ] at hn
  have h0 : t.ks.length = t.xs.length + 1 := hw.1 (Nat.succ_pos h)
  obtain ⟨q, e1, e2, e5⟩ := cut_at' (l := t.ks) (i := i) (by omega)
  rw [hk] at e2
  cases e2
  have hkm := List.mem_of_getElem? hk
  have hkw := (hw.2 k hkm).1
  have hkl := xs_len (g := inL h) hkw.or
  have hkl2 := hxl.2 k hkm
  have hkk : k.ks.map (bk h) = [] ∨ (k.ks.map (bk h)).length = k.xs.length + 1 := by
    rcases hkw.or with h | h
    · exact .inl (by simp [h])
    · exact .inr (by simp [h])
  rw [inL_succ] at hkl2
  have hI : HasI ((t.ks.map (bk (h + 1))).map at_) (i : Int) (at_ k.b) := .nat (by simp [hk]; rfl)
  obtain ⟨ip, ic, cp, cc, S0⟩ := tr_open S
  have S2 : Sat H (star (t.ks.map (tr c (h + 1))) :: _) := S0.to (Ent.bring (by (repeat (first | exact Sel.here | apply Sel.there))))
  have S3 := S2.to (kid_out' e1)
  have Snd := S3.to tr_nd
  obtain ⟨jp, jc, dp, dc, S4⟩ := tr_open S3
  refine F67.calls ?_
  unfold F67.go
  rw [wadd (by omega)]
  (repeat (first | (refine Step.go ?_; intros) | refine iteB_t (by decide) ?_ | refine iteB_f (by decide) ?_ | (refine Duo.mk (by first | omega | exact rfl | decide) ?_; intros) | (refine Duo.mk (Clo.mk (by kernel_rfl)) ?_; intros)))
  refine Sat.idx (f := ptC) (E := 74) (z := 1) S0 ⟨by omega, by omega, fun r o hr => ?_⟩
  subst hr
  (repeat (first | (refine Step.go ?_; intros) | refine iteB_t (by decide) ?_ | refine iteB_f (by decide) ?_ | (refine Duo.mk (by first | omega | exact rfl | decide) ?_; intros) | (refine Duo.mk (Clo.mk (by kernel_rfl)) ?_; intros)))
  refine iteB_i (fun h1 => ?_) (fun h1 => ?_)
  · have h2 : k.xs.length < M := by have := of_decide_eq_true h1; omega
    exact .inl ⟨h2, rfl, S⟩
  · have h2 : M ≤ k.xs.length := by have := of_decide_eq_false h1; omega
    obtain ⟨x, hx⟩ : ∃ x, k.xs[M / 2]? = some x := get_of (by omega)
    refine gives_i Snd (mutChild_ok hk S) ?_
    intro H1 _ S5
    (repeat (first | (refine Step.go ?_; intros) | refine iteB_t (by decide) ?_ | refine iteB_f (by decide) ?_ | (refine Duo.mk (by first | omega | exact rfl | decide) ?_; intros) | (refine Duo.mk (Clo.mk (by kernel_rfl)) ?_; intros)))
    rw [show IntKind.wrap .i64 (Int.tdiv (M : Int) 2) = ((M / 2 : Nat) : Int) by rw [Int.tdiv_eq_ediv_of_nonneg (by omega), wr (by omega) (by omega)]; omega]
    refine call_of (split_ok (c := c) (f := f) (b := k.b) hx (by omega) hkk (by (refine Sat.to (by assumption) ?_; apply Ent.pick; (focus (repeat (first | exact Sel.here | apply Sel.there))); apply Ent.pick; (focus (repeat (first | exact Sel.here | apply Sel.there))); exact Ent.refl))) ?_
    rintro en H2 ⟨b2, rfl, S6⟩
    have ek1 : (k.ks.map (bk h)).take (M / 2 + 1) = (k.ks.take (M / 2 + 1)).map (bk h) := by simp
    have ek2 : (k.ks.map (bk h)).drop (M / 2 + 1) = (k.ks.drop (M / 2 + 1)).map (bk h) := by simp
    rw [ek1] at S6
    rw [ek2] at S6
    (repeat (first | (refine Step.go ?_; intros) | refine iteB_t (by decide) ?_ | refine iteB_f (by decide) ?_ | (refine Duo.mk (by first | omega | exact rfl | decide) ?_; intros) | (refine Duo.mk (Clo.mk (by kernel_rfl)) ?_; intros)))
    refine call_of (insI_ok (i := i) (e := x) (n := t.xs.length) (xs := t.xs) (c := ic) hi (by omega) (by (refine Sat.to (by assumption) ?_; apply Ent.pick; (focus (repeat (first | exact Sel.here | apply Sel.there))); apply Ent.pick; (focus (repeat (first | exact Sel.here | apply Sel.there))); exact Ent.refl))) ?_
    rintro en H3 ⟨ip', ic', rfl, S7⟩
    (repeat (first | (refine Step.go ?_; intros) | refine iteB_t (by decide) ?_ | refine iteB_f (by decide) ?_ | (refine Duo.mk (by first | omega | exact rfl | decide) ?_; intros) | (refine Duo.mk (Clo.mk (by kernel_rfl)) ?_; intros)))
    refine call_of (insP_ok (i := i + 1) (e := at_ b2) (n := t.ks.length) (xs := (t.ks.map (bk (h + 1))).map at_) (c := cc) (by omega) (by omega) (by (refine Sat.to (by assumption) ?_; apply Ent.pick; (focus (repeat (first | exact Sel.here | apply Sel.there))); apply Ent.pick; (focus (repeat (first | exact Sel.here | apply Sel.there))); exact Ent.refl))) ?_
    rintro en H4 ⟨cp', cc', rfl, S8⟩
    (repeat (first | (refine Step.go ?_; intros) | refine iteB_t (by decide) ?_ | refine iteB_f (by decide) ?_ | (refine Duo.mk (by first | omega | exact rfl | decide) ?_; intros) | (refine Duo.mk (Clo.mk (by kernel_rfl)) ?_; intros)))
    refine .inr ⟨h2, b2, x, hx, rfl, ?_⟩
    have e3 : ((t.ks.map (bk (h + 1))).map at_).take (i + 1) ++ at_ b2 :: ((t.ks.map (bk (h + 1))).map at_).drop (i + 1) = ((splitK t i (M / 2) b2 k x).ks.map (bk (h + 1))).map at_ := by
      rw [take_snoc (by have := hI.out; rwa [Int.toNat_natCast] at this)]
      show _ = ((t.ks.take i ++ mkT k.b (k.xs.take (M / 2)) (k.ks.take (M / 2 + 1)) :: mkT b2 (k.xs.drop (M / 2 + 1)) (k.ks.drop (M / 2 + 1)) :: t.ks.drop (i + 1)).map (bk (h + 1))).map at_
      simp
      exact ⟨rfl, rfl⟩
    rw [e3] at S8
    have T0 : Sat H4 (star (k.ks.map (tr c h)) :: _) := S8.to (Ent.bring (by (repeat (first | exact Sel.here | apply Sel.there))))
    have T1 := T0.to (starCut (n := M / 2 + 1))
    have T2 : Sat H4 (nd k.b (at_ c) (k.xs.take (M / 2)) ((k.ks.take (M / 2 + 1)).map (bk h)) :: star ((k.ks.take (M / 2 + 1)).map (tr c h)) :: _) := T1.to (Ent.pick (by (repeat (first | exact Sel.here | apply Sel.there))) (Ent.pick (by (repeat (first | exact Sel.here | apply Sel.there))) .refl))
    have T3 := T2.to nd_tr
    have T4 : Sat H4 (nd b2 (at_ c) (k.xs.drop (M / 2 + 1)) ((k.ks.drop (M / 2 + 1)).map (bk h)) :: star ((k.ks.drop (M / 2 + 1)).map (tr c h)) :: _) := T3.to (Ent.pick (by (repeat (first | exact Sel.here | apply Sel.there))) (Ent.pick (by (repeat (first | exact Sel.here | apply Sel.there))) .refl))
    have T5 := T4.to nd_tr
    have T6 : Sat H4 (tr c (h + 1) (mkT b2 (k.xs.drop (M / 2 + 1)) (k.ks.drop (M / 2 + 1))) :: star ((t.ks.take i ++ t.ks.drop (i + 1)).map (tr c (h + 1))) :: _) := T5.to (Ent.pick Sel.here (Ent.pick (by (repeat (first | exact Sel.here | apply Sel.there))) .refl))
    have T7 := T6.to kid_in
    have T8 : Sat H4 (tr c (h + 1) (mkT k.b (k.xs.take (M / 2)) (k.ks.take (M / 2 + 1))) :: star ((t.ks.take i ++ mkT b2 (k.xs.drop (M / 2 + 1)) (k.ks.drop (M / 2 + 1)) :: t.ks.drop (i + 1)).map (tr c (h + 1))) :: _) := T7.to (Ent.pick (by (repeat (first | exact Sel.here | apply Sel.there))) (Ent.pick (by (repeat (first | exact Sel.here | apply Sel.there))) .refl))
    have T9 := T8.to kid_in
    have T9 : Sat H4 (star ((splitK t i (M / 2) b2 k x).ks.map (tr c (h + 1))) :: _) := T9
    have T10 : Sat H4 (pt (splitK t i (M / 2) b2 k x).b (.cells ⟨[.slice ip' (t.xs.length + 1) ic', .slice cp' (t.ks.length + 1) cc', .pointer (at_ c)]⟩ 94) :: sI ip' (t.xs.length + 1) ic' (splitK t i (M / 2) b2 k x).xs :: sP cp' (t.ks.length + 1) cc' (((splitK t i (M / 2) b2 k x).ks.map (bk (h + 1))).map at_) :: star ((splitK t i (M / 2) b2 k x).ks.map (tr c (h + 1))) :: cx c f :: l) := by (refine Sat.to (by assumption) ?_; apply Ent.pick; (focus (repeat (first | exact Sel.here | apply Sel.there))); apply Ent.pick; (focus (repeat (first | exact Sel.here | apply Sel.there))); apply Ent.pick; (focus (repeat (first | exact Sel.here | apply Sel.there))); apply Ent.pick; (focus (repeat (first | exact Sel.here | apply Sel.there))); apply Ent.pick; (focus (repeat (first | exact Sel.here | apply Sel.there))); exact Fits.out)
    exact tr_shut T10
end
end Go.Proofs.Ytdgcdjlomindhaa

set_option linter.unusedVariables false
set_option linter.unusedSimpArgs false
set_option linter.unnecessarySimpa false
namespace Go.Proofs.Ytdgcdjlomindhaa
open Go Go.Den Go.Proofs
/-! A split changes nothing of what is there. -/
theorem node_split {α : Type} {g : α → List Itm} {xs : List Itm} {ks : List α} {m : Nat} {x : Itm} (hx : xs[m]? = some x) (hk : ks = [] ∨ ks.length = xs.length + 1) :
    inter xs (ks.map g) = inter (xs.take m) ((ks.take (m + 1)).map g) ++ x :: inter (xs.drop (m + 1)) ((ks.drop (m + 1)).map g) := by
  obtain ⟨x', ex1, ex2, ex3⟩ := cut_at' (l := xs) (i := m) (lt_of hx)
  rw [hx] at ex2
  cases ex2
  have hm := lt_of hx
  rcases hk with rfl | hk
  · simp only [List.take_nil, List.drop_nil, List.map_nil, inter]
    exact ex1
  · obtain ⟨q, e1, e2, e3⟩ := cut_at' (l := ks) (i := m) (by omega)
    obtain ⟨q2, f1, f2, f3⟩ := cut_at' (l := ks) (i := m + 1) (by omega)
    have h1 := inter_split (xs1 := xs.take m) (xs2 := x :: xs.drop (m + 1)) (k := g q) (ks1 := (ks.take m).map g) (ks2 := (ks.drop (m + 1)).map g) (by simp; omega)
    rw [← ex1, ← List.map_cons, ← List.map_append, ← e1] at h1
    have h2 := inter_split (xs1 := xs.take m) (xs2 := []) (k := g q) (ks1 := (ks.take m).map g) (ks2 := []) (by simp; omega)
    rw [List.append_nil] at h2
    rw [h1, take_snoc e2, List.map_append, List.map_cons, List.map_nil, h2, f3]
    simp [postL, inter]
section
variable {d h i m b2 : Nat} {t : Tr (h + 1 + 1)} {k : Tr (h + 1)} {x : Itm}
theorem splitK_inL (hw : WF d (h + 1 + 1) t) (hi : i ≤ t.xs.length) (hk : t.ks[i]? = some k) (hx : k.xs[m]? = some x) : inL (h + 1 + 1) (splitK t i m b2 k x) = inL (h + 1 + 1) t := by
  have h0 : t.ks.length = t.xs.length + 1 := hw.1 (Nat.succ_pos h)
  obtain ⟨q, e1, e2, e3⟩ := inter_at (g := inL (h + 1)) h0 hi
  rw [hk] at e2
  cases e2
  have e4 := e3 (t.ks.take i) (t.ks.drop (i + 1)) k (by simp; omega) (by simp; omega)
  rw [← e1] at e4
  have hkw := (hw.2 k (List.mem_of_getElem? hk)).1
  have h1 := inter_split (xs1 := t.xs.take i) (xs2 := x :: t.xs.drop i) (k := inL (h + 1) (mkT k.b (k.xs.take m) (k.ks.take (m + 1)))) (ks1 := (t.ks.take i).map (inL (h + 1))) (ks2 := inL (h + 1) (mkT b2 (k.xs.drop (m + 1)) (k.ks.drop (m + 1))) :: (t.ks.drop (i + 1)).map (inL (h + 1))) (by simp; omega)
  have h2 : inL (h + 1) k = inL (h + 1) (mkT k.b (k.xs.take m) (k.ks.take (m + 1))) ++ x :: inL (h + 1) (mkT b2 (k.xs.drop (m + 1)) (k.ks.drop (m + 1))) := node_split (g := inL h) hx hkw.or
  have h3 : inL (h + 1 + 1) (splitK t i m b2 k x) = inter (t.xs.take i ++ x :: t.xs.drop i) ((t.ks.take i).map (inL (h + 1)) ++ inL (h + 1) (mkT k.b (k.xs.take m) (k.ks.take (m + 1))) :: inL (h + 1) (mkT b2 (k.xs.drop (m + 1)) (k.ks.drop (m + 1))) :: (t.ks.drop (i + 1)).map (inL (h + 1))) := by
    show inter _ ((t.ks.take i ++ mkT k.b (k.xs.take m) (k.ks.take (m + 1)) :: mkT b2 (k.xs.drop (m + 1)) (k.ks.drop (m + 1)) :: t.ks.drop (i + 1)).map (inL (h + 1))) = _
    rw [List.map_append, List.map_cons, List.map_cons]
    rfl
  have e4' : inL (h + 1 + 1) t = _ := e4
  rw [h3, h1, e4', h2]
  simp [postL]
theorem splitK_WF (hd : 1 ≤ d) (hw : WF d (h + 1 + 1) t) (hi : i ≤ t.xs.length) (hk : t.ks[i]? = some k) (hx : k.xs[m]? = some x) (hm : m + 1 = d) (hl : 2 * d ≤ k.xs.length + 1) : WF d (h + 1 + 1) (splitK t i m b2 k x) := by
  have h0 : t.ks.length = t.xs.length + 1 := hw.1 (Nat.succ_pos h)
  have hkw := (hw.2 k (List.mem_of_getElem? hk)).1
  have hm1 := lt_of hx
  have hk1 := lt_of hk
  have w1 : WF d (h + 1) (mkT k.b (k.xs.take m) (k.ks.take (m + 1))) := by
    refine ⟨fun hp => ?_, fun q hq => hkw.2 q (List.mem_of_mem_take hq)⟩
    have := hkw.1 hp
    show (k.ks.take (m + 1)).length = (k.xs.take m).length + 1
    rw [List.length_take, List.length_take]; omega
  have w2 : WF d (h + 1) (mkT b2 (k.xs.drop (m + 1)) (k.ks.drop (m + 1))) := by
    refine ⟨fun hp => ?_, fun q hq => hkw.2 q (List.mem_of_mem_drop hq)⟩
    have := hkw.1 hp
    show (k.ks.drop (m + 1)).length = (k.xs.drop (m + 1)).length + 1
    rw [List.length_drop, List.length_drop]; omega
  refine ⟨fun _ => ?_, fun q hq => ?_⟩
  · show (t.ks.take i ++ _ :: _ :: t.ks.drop (i + 1)).length = (t.xs.take i ++ x :: t.xs.drop i).length + 1
    simp only [List.length_append, List.length_cons, List.length_take, List.length_drop]; omega
  · have hq : q ∈ t.ks.take i ++ mkT k.b (k.xs.take m) (k.ks.take (m + 1)) :: mkT b2 (k.xs.drop (m + 1)) (k.ks.drop (m + 1)) :: t.ks.drop (i + 1) := hq
    rcases List.mem_append.1 hq with hq | hq
    · exact hw.2 q (List.mem_of_mem_take hq)
    · rcases List.mem_cons.1 hq with rfl | hq
      · refine ⟨w1, ?_⟩
        show d ≤ (k.xs.take m).length + 1
        rw [List.length_take]; omega
      · rcases List.mem_cons.1 hq with rfl | hq
        · refine ⟨w2, ?_⟩
          show d ≤ (k.xs.drop (m + 1)).length + 1
          rw [List.length_drop]; omega
        · exact hw.2 q (List.mem_of_mem_drop hq)
end
theorem ins_get {α : Type} {xs : List α} {x : α} {i : Nat} (hi : i ≤ xs.length) : ∀ j, (xs.take i ++ x :: xs.drop i)[j]? = if j < i then xs[j]? else if j = i then some x else xs[j - 1]? := by
  intro j
  have hl : (xs.take i).length = i := by simp; omega
  split
  · rename_i h
    rw [List.getElem?_append_left (by omega), List.getElem?_take, if_pos h]
  · split
    · rename_i h1 h2
      subst h2
      rw [List.getElem?_append_right (by omega), hl, Nat.sub_self]; rfl
    · rw [List.getElem?_append_right (by omega), hl]
      obtain ⟨s, hs⟩ : ∃ s, j - i = s + 1 := ⟨j - i - 1, by omega⟩
      rw [hs, List.getElem?_cons_succ, List.getElem?_drop]
      congr 1; omega
theorem find_split {xs : List Itm} {x : Itm} {k : Int} {i : Nat} (hf : FindAt xs k i false) : (k < x.k → FindAt (xs.take i ++ x :: xs.drop i) k i false) ∧ (x.k < k → FindAt (xs.take i ++ x :: xs.drop i) k (i + 1) false) := by
  have hi := hf.le
  constructor
  · intro hx
    refine ⟨by simp; omega, fun j y hy hj => ?_, fun h => (by cases h), fun j y hy hj _ => ?_⟩
    · rw [ins_get hi, if_pos hj] at hy
      exact hf.lo j y hy hj
    · rw [ins_get hi, if_neg (by omega)] at hy
      split at hy
      · cases hy; exact hx
      · exact hf.hi (j - 1) y hy (by omega) (fun h => by cases h)
  · intro hx
    refine ⟨by simp; omega, fun j y hy hj => ?_, fun h => (by cases h), fun j y hy hj _ => ?_⟩
    · rw [ins_get hi] at hy
      split at hy
      · exact hf.lo j y hy (by assumption)
      · split at hy
        · cases hy; exact hx
        · omega
    · rw [ins_get hi, if_neg (by omega), if_neg (by omega)] at hy
      exact hf.hi (j - 1) y hy (by omega) (fun h => by cases h)
end Go.Proofs.Ytdgcdjlomindhaa

set_option linter.unusedVariables false
set_option linter.unusedSimpArgs false
set_option linter.unnecessarySimpa false
namespace Go.Proofs.Ytdgcdjlomindhaa
open Go Go.Den Go.Proofs
/-! An element is put into a tree: down to a child. -/
theorem put_mid {A B : List Itm} {e : Itm} (h1 : ∀ a ∈ A, a.k < e.k) (h2 : ∀ a ∈ B, e.k < a.k) : put (A ++ B) e = A ++ e :: B := by
  rw [put_app h1]
  have := put_front (l := []) h2
  rw [List.nil_append] at this
  rw [this]; rfl
/-- What a call gives back that puts an element in. -/
def InsPost (d c f : Nat) (e : Itm) (h : Nat) (t : Tr (h + 1)) (l : List HP) (en : Ending) (H1 : Heap) : Prop :=
  ∃ t' : Tr (h + 1), en = .returned (.tuple ⟨[.agg ⟨((getI (inL (h + 1) t) e.k).getD ⟨0, 0⟩).cells⟩, .bool (getI (inL (h + 1) t) e.k).isSome]⟩) ∧ t'.b = t.b ∧ WF d (h + 1) t' ∧ t.xs.length ≤ t'.xs.length ∧ inL (h + 1) t' = put (inL (h + 1) t) e ∧ Sat H1 (tr c (h + 1) t' :: cx c f :: l)
section
variable {c f d M : Nat} {e : Itm}
theorem ins_down {h : Nat} {t : Tr (h + 1 + 1)} {i r r1 : Nat} {H : Heap} {l : List HP} {R : Ending → Heap → Prop} (hw : WF d (h + 1 + 1) t) (hs : Srt (inL (h + 1 + 1) t)) (hn : (inL (h + 1 + 1) t).length < 2 ^ 38) (hf : FindAt t.xs e.k i false)
    (ih : ∀ k : Tr (h + 1), WF d (h + 1) k → Srt (inL (h + 1) k) → (inL (h + 1) k).length < 2 ^ 38 → ∀ (H : Heap) (l : List HP), Sat H (tr c (h + 1) k :: cx c f :: l) → CallsH Try.prog 47 ⟨[.pointer (at_ k.b), .agg ⟨e.cells⟩, .int .i64 (M : Int)]⟩ H (InsPost d c f e h k l))
    (S : Sat H (tr c (h + 1 + 1) t :: cx c f :: pt r (.cells ⟨e.cells⟩ 25) :: pt r1 (.cells ⟨[.int .i64 0, .int .i64 0]⟩ 25) :: l))
    (K : ∀ (t' : Tr (h + 1 + 1)) H1, t'.b = t.b → WF d (h + 1 + 1) t' → t.xs.length ≤ t'.xs.length → inL (h + 1 + 1) t' = put (inL (h + 1 + 1) t) e → Sat H1 (tr c (h + 1 + 1) t' :: cx c f :: l) → R (.returned (.tuple ⟨[.agg ⟨((getI (inL (h + 1 + 1) t) e.k).getD ⟨0, 0⟩).cells⟩, .bool (getI (inL (h + 1 + 1) t) e.k).isSome]⟩)) H1) :
    F47.L0 (at_ t.b) (M : Int) r r1 (i : Int) H R := by
  have hxl := xs_len (g := inL (h + 1)) hw.or
  have h0 : t.ks.length = t.xs.length + 1 := hw.1 (Nat.succ_pos h)
  rw [inL_succ] at hs hn
  obtain ⟨k, e1, e2, e3, e4, e5, e6⟩ := around (g := inL (h + 1)) h0 hs hf
  have hkm := List.mem_of_getElem? e2
  have hkw := hw.2 k hkm
  have hsk : Srt (inL (h + 1) k) := by rw [e3] at hs; exact hs.right.left
  obtain ⟨ip, ic, cp, cc, S0⟩ := tr_open S
  have S2 : Sat H (star (t.ks.map (tr c (h + 1))) :: _) := S0.to (Ent.bring (by (repeat (first | exact Sel.here | apply Sel.there))))
  have S3 := S2.to (kid_out' e1)
  refine F47.L0_step ?_
  unfold F47.L0n
  (repeat (first | (refine Step.go ?_; intros) | refine iteB_t (by decide) ?_ | refine iteB_f (by decide) ?_ | (refine Duo.mk (by first | omega | exact rfl | decide) ?_; intros) | (refine Duo.mk (Clo.mk (by kernel_rfl)) ?_; intros)))
  refine gives_i S3 (mutChild_ok e2 S) ?_
  intro H1 hx S4
  (repeat (first | (refine Step.go ?_; intros) | refine iteB_t (by decide) ?_ | refine iteB_f (by decide) ?_ | (refine Duo.mk (by first | omega | exact rfl | decide) ?_; intros) | (refine Duo.mk (Clo.mk (by kernel_rfl)) ?_; intros)))
  refine call_of (ih k hkw.1 hsk (by have := hxl.2 k hkm; omega) H1 _ (by (refine Sat.to (by assumption) ?_; apply Ent.pick; (focus (repeat (first | exact Sel.here | apply Sel.there))); apply Ent.pick; (focus (repeat (first | exact Sel.here | apply Sel.there))); exact Ent.refl))) ?_
  rintro en H2 ⟨k', rfl, hb, hw', hl', hp, S5⟩
  (repeat (first | (refine Step.go ?_; intros) | refine iteB_t (by decide) ?_ | refine iteB_f (by decide) ?_ | (refine Duo.mk (by first | omega | exact rfl | decide) ?_; intros) | (refine Duo.mk (Clo.mk (by kernel_rfl)) ?_; intros)))
  rename_i H4 S6
  have eg : getI (inL (h + 1) k) e.k = getI (inL (h + 1 + 1) t) e.k := by
    have e3' : inL (h + 1 + 1) t = _ := e3
    rw [e3', get_app e5, get_front e6]
  rw [← eg] at K
  have T1 : Sat H4 (tr c (h + 1) k' :: star ((t.ks.take i ++ t.ks.drop (i + 1)).map (tr c (h + 1))) :: _) := S6.to (Ent.pick (by (repeat (first | exact Sel.here | apply Sel.there))) (Ent.pick (by (repeat (first | exact Sel.here | apply Sel.there))) .refl))
  have T2 := T1.to kid_in
  have eb : (t.ks.take i ++ k' :: t.ks.drop (i + 1)).map (bk (h + 1)) = t.ks.map (bk (h + 1)) := by
    conv => rhs; rw [e1]
    rw [List.map_append, List.map_append, List.map_cons, List.map_cons]
    congr 2
  refine K (mkT t.b t.xs (t.ks.take i ++ k' :: t.ks.drop (i + 1))) H4 rfl ?_ (Nat.le_refl _) ?_ ?_
  · refine ⟨fun _ => ?_, fun q hq => ?_⟩
    · have := congrArg List.length eb
      rw [List.length_map, List.length_map] at this
      show (t.ks.take i ++ k' :: t.ks.drop (i + 1)).length = t.xs.length + 1
      omega
    · have hq : q ∈ t.ks.take i ++ k' :: t.ks.drop (i + 1) := hq
      rcases List.mem_append.1 hq with hq | hq
      · exact hw.2 q (List.mem_of_mem_take hq)
      · rcases List.mem_cons.1 hq with rfl | hq
        · refine ⟨hw', ?_⟩
          have : d ≤ k.xs.length + 1 := hkw.2
          show d ≤ q.xs.length + 1
          omega
        · exact hw.2 q (List.mem_of_mem_drop hq)
  · have a1 : inL (h + 1 + 1) (mkT t.b t.xs (t.ks.take i ++ k' :: t.ks.drop (i + 1))) = _ := e4 k'
    have a2 : inL (h + 1 + 1) t = _ := e3
    rw [a1, a2, hp, put_app e5, put_front e6]
  · have T3 : Sat H4 (pt t.b (.cells ⟨[.slice ip t.xs.length ic, .slice cp t.ks.length cc, .pointer (at_ c)]⟩ 94) :: sI ip t.xs.length ic t.xs :: sP cp t.ks.length cc (((t.ks.take i ++ k' :: t.ks.drop (i + 1)).map (bk (h + 1))).map at_) :: star ((t.ks.take i ++ k' :: t.ks.drop (i + 1)).map (tr c (h + 1))) :: cx c f :: l) := by
      rw [eb]
      (refine Sat.to (by assumption) ?_; apply Ent.pick; (focus (repeat (first | exact Sel.here | apply Sel.there))); apply Ent.pick; (focus (repeat (first | exact Sel.here | apply Sel.there))); apply Ent.pick; (focus (repeat (first | exact Sel.here | apply Sel.there))); apply Ent.pick; (focus (repeat (first | exact Sel.here | apply Sel.there))); apply Ent.pick; (focus (repeat (first | exact Sel.here | apply Sel.there))); exact Fits.out)
    exact tr_close T3
end
end Go.Proofs.Ytdgcdjlomindhaa

set_option linter.unusedVariables false
set_option linter.unusedSimpArgs false
set_option linter.unnecessarySimpa false
namespace Go.Proofs.Ytdgcdjlomindhaa
open Go Go.Den Go.Proofs
/-! An element is put into a tree. -/
section
variable {c f d M : Nat} {e : Itm}
theorem getD_isSome {l : List Itm} {k : Int} {y : Itm} (h : getI l k = some y) : (getI l k).getD ⟨0, 0⟩ = y ∧ (getI l k).isSome = true := by rw [h]; exact ⟨rfl, rfl⟩
/-- An item takes another one's place. -/
theorem set_tree {h : Nat} {t : Tr (h + 1)} {i : Nat} {y : Itm} (hw : WF d (h + 1) t) (hs : Srt (inL (h + 1) t)) (hy : t.xs[i]? = some y) (hk : y.k = e.k) :
    WF d (h + 1) (mkT t.b (t.xs.set i e) t.ks) ∧ inL (h + 1) (mkT t.b (t.xs.set i e) t.ks) = put (inL (h + 1) t) e ∧ getI (inL (h + 1) t) e.k = some y := by
  obtain ⟨A, B, e1, e2⟩ := inter_item (g := inL h) hw.or hy
  have e1' : inL (h + 1) t = A ++ y :: B := e1
  have e2' : inL (h + 1) (mkT t.b (t.xs.set i e) t.ks) = A ++ e :: B := e2 e
  rw [e1'] at hs
  have hA : ∀ a ∈ A, a.k < e.k := by rw [← hk]; exact hs.item.1
  refine ⟨⟨fun hp => ?_, hw.2⟩, ?_, ?_⟩
  · show t.ks.length = (t.xs.set i e).length + 1
    rw [List.length_set]; exact hw.1 hp
  · rw [e2', e1', put_app hA, put_hit hk.symm]
  · rw [e1', get_app hA, get_hit hk.symm]
theorem ins_step {h : Nat} {t : Tr (h + 1)} {H : Heap} {l : List HP} (hd : 1 ≤ d) (hM : M + 1 = 2 * d) (hM2 : M < 2 ^ 30) (hw : WF d (h + 1) t) (hs : Srt (inL (h + 1) t)) (hn : (inL (h + 1) t).length < 2 ^ 38)
    (ih : ∀ h', h = h' + 1 → ∀ k : Tr (h' + 1), WF d (h' + 1) k → Srt (inL (h' + 1) k) → (inL (h' + 1) k).length < 2 ^ 38 → ∀ (H : Heap) (l : List HP), Sat H (tr c (h' + 1) k :: cx c f :: l) → CallsH Try.prog 47 ⟨[.pointer (at_ k.b), .agg ⟨e.cells⟩, .int .i64 (M : Int)]⟩ H (InsPost d c f e h' k l))
    (S : Sat H (tr c (h + 1) t :: cx c f :: l)) :
    CallsH Try.prog 47 ⟨[.pointer (at_ t.b), .agg ⟨e.cells⟩, .int .i64 (M : Int)]⟩ H (InsPost d c f e h t l) := by
  have hxl := xs_len (g := inL h) hw.or
  have hn' := hn
  rw [inL_succ] at hn'
  have hs' := hs
  rw [inL_succ] at hs'
  have hsx := srt_xs hw.or hs'
  obtain ⟨ip, ic, cp, cc, S0⟩ := tr_open S
  refine F47.calls ?_
  unfold F47.go
  (repeat (first | (refine Step.go ?_; intros) | refine iteB_t (by decide) ?_ | refine iteB_f (by decide) ?_ | (refine Duo.mk (by first | omega | exact rfl | decide) ?_; intros) | (refine Duo.mk (Clo.mk (by kernel_rfl)) ?_; intros)))
  rename_i r H1 S1 r1 H2 S2
  refine call_of (find_ok (e := e) hsx (by omega) (by (refine Sat.to (by assumption) ?_; apply Ent.pick; (focus (repeat (first | exact Sel.here | apply Sel.there))); exact Ent.refl))) ?_
  rintro en H3 ⟨i, found, rfl, hf, S3⟩
  (repeat (first | (refine Step.go ?_; intros) | refine iteB_t (by decide) ?_ | refine iteB_f (by decide) ?_ | (refine Duo.mk (by first | omega | exact rfl | decide) ?_; intros) | (refine Duo.mk (Clo.mk (by kernel_rfl)) ?_; intros)))
  refine iteB_i (fun h1 => ?_) (fun h1 => ?_)
  · subst h1
    obtain ⟨y, hy, hyk⟩ := hf.hit rfl
    have hI : HasI t.xs (i : Int) y := .nat hy
    have hil := lt_of hy
    (repeat (first | (refine Step.go ?_; intros) | refine iteB_t (by decide) ?_ | refine iteB_f (by decide) ?_ | (refine Duo.mk (by first | omega | exact rfl | decide) ?_; intros) | (refine Duo.mk (Clo.mk (by kernel_rfl)) ?_; intros)))
    refine Sat.idx (f := Itm.cells) (E := 25) (z := 2) S3 ⟨by omega, by omega, fun r o hr => ?_⟩
    subst hr
    (repeat (first | (refine Step.go ?_; intros) | refine iteB_t (by decide) ?_ | refine iteB_f (by decide) ?_ | (refine Duo.mk (by first | omega | exact rfl | decide) ?_; intros) | (refine Duo.mk (Clo.mk (by kernel_rfl)) ?_; intros)))
    rename_i S4
    have hI2 : HasI (t.xs.set (Int.toNat (i : Int)) ⟨e.k, y.v⟩) (i : Int) ⟨e.k, y.v⟩ := ⟨by simp; rw [List.getElem?_set_self (by omega)]⟩
    (repeat (first | (refine Step.go ?_; intros) | refine iteB_t (by decide) ?_ | refine iteB_f (by decide) ?_ | (refine Duo.mk (by first | omega | exact rfl | decide) ?_; intros) | (refine Duo.mk (Clo.mk (by kernel_rfl)) ?_; intros)))
    rename_i H9 S9
    obtain ⟨w1, w2, w3⟩ := set_tree (e := e) hw hs hy hyk
    obtain ⟨g1, g2⟩ := getD_isSome w3
    have eset : (t.xs.set (Int.toNat (i : Int)) ⟨e.k, y.v⟩).set (Int.toNat (i : Int)) ⟨e.k, e.v⟩ = t.xs.set i e := by rw [List.set_set, Int.toNat_natCast]
    refine ⟨mkT t.b (t.xs.set i e) t.ks, by rw [g1, g2], rfl, w1, by show _ ≤ (t.xs.set i e).length; rw [List.length_set]; exact Nat.le_refl _, w2, ?_⟩
    simp only [List.set_set, Int.toNat_natCast] at S9
    exact tr_close (ip := some ⟨r, o, none⟩) (ic := ic) (cp := cp) (cc := cc) (n := t.xs.length) (m := t.ks.length) (xs := t.xs.set i e) (ks := t.ks) Sat.fin
  · have h1 : found = false := h1
    subst h1
    (repeat (first | (refine Step.go ?_; intros) | refine iteB_t (by decide) ?_ | refine iteB_f (by decide) ?_ | (refine Duo.mk (by first | omega | exact rfl | decide) ?_; intros) | (refine Duo.mk (Clo.mk (by kernel_rfl)) ?_; intros)))
    refine iteB_i (fun h2 => ?_) (fun h2 => ?_)
    · have hk0 : t.ks = [] := List.eq_nil_of_length_eq_zero (by simpa using h2)
      have hle := hf.le
      (repeat (first | (refine Step.go ?_; intros) | refine iteB_t (by decide) ?_ | refine iteB_f (by decide) ?_ | (refine Duo.mk (by first | omega | exact rfl | decide) ?_; intros) | (refine Duo.mk (Clo.mk (by kernel_rfl)) ?_; intros)))
      refine call_of (insI_ok (i := i) (e := e) (n := t.xs.length) (xs := t.xs) (c := ic) hf.le (by omega) (by (refine Sat.to (by assumption) ?_; apply Ent.pick; (focus (repeat (first | exact Sel.here | apply Sel.there))); apply Ent.pick; (focus (repeat (first | exact Sel.here | apply Sel.there))); exact Ent.refl))) ?_
      rintro en H4 ⟨ip', ic', rfl, S4⟩
      (repeat (first | (refine Step.go ?_; intros) | refine iteB_t (by decide) ?_ | refine iteB_f (by decide) ?_ | (refine Duo.mk (by first | omega | exact rfl | decide) ?_; intros) | (refine Duo.mk (Clo.mk (by kernel_rfl)) ?_; intros)))
      have ex : t.xs = t.xs.take i ++ t.xs.drop i := (List.take_append_drop i _).symm
      have e0 : inL (h + 1) t = t.xs := by rw [inL_succ, hk0]; rfl
      have hg : getI (inL (h + 1) t) e.k = none := by rw [e0]; exact get_leaf hf
      have hnp : ¬ 0 < h := fun hp => by have := hw.1 hp; rw [hk0] at this; simp at this
      refine ⟨mkT t.b (t.xs.take i ++ e :: t.xs.drop i) t.ks, by rw [hg]; rfl, rfl, ⟨fun hp => absurd hp hnp, hw.2⟩, ?_, ?_, ?_⟩
      · show t.xs.length ≤ (t.xs.take i ++ e :: t.xs.drop i).length
        simp; omega
      · have e1 : inL (h + 1) (mkT t.b (t.xs.take i ++ e :: t.xs.drop i) t.ks) = t.xs.take i ++ e :: t.xs.drop i := by rw [inL_succ]; show inter (t.xs.take i ++ e :: t.xs.drop i) (t.ks.map (inL h)) = _; rw [hk0]; rfl
        rw [e1, e0]
        conv => rhs; rw [ex]
        rw [put_mid hf.mem_lo hf.mem_hi]
      · exact tr_close (ip := ip') (ic := ic') (cp := cp) (cc := cc) (n := t.xs.length + 1) (m := t.ks.length) (xs := t.xs.take i ++ e :: t.xs.drop i) (ks := t.ks) Sat.fin
    · have hkl : t.ks.length ≠ 0 := fun h0 => by rw [h0] at h2; cases h2
      obtain ⟨h', rfl⟩ : ∃ h', h = h' + 1 := by
        cases h with
        | zero => exact absurd (by rw [leaf_ks no0 t.ks]; rfl) hkl
        | succ h' => exact ⟨h', rfl⟩
      have h0 : t.ks.length = t.xs.length + 1 := hw.1 (Nat.succ_pos h')
      obtain ⟨k, e1, e2, e3⟩ := cut_at' (l := t.ks) (i := i) (by have := hf.le; omega)
      have S4 : Sat H3 (tr c (h' + 1 + 1) t :: cx c f :: pt r (.cells ⟨e.cells⟩ 25) :: pt r1 (.cells ⟨[.int .i64 0, .int .i64 0]⟩ 25) :: l) := tr_shut (ip := ip) (ic := ic) (cp := cp) (cc := cc) (n := t.xs.length) (m := t.ks.length) Sat.fin
      refine call_of (msc_ok (M := M) hw hf.le e2 (by omega) (by omega) (by omega) S4) ?_
      rintro en H4 (⟨g1, rfl, S5⟩ | ⟨g1, b2, x, g2, rfl, S5⟩)
      · (repeat (first | (refine Step.go ?_; intros) | refine iteB_t (by decide) ?_ | refine iteB_f (by decide) ?_ | (refine Duo.mk (by first | omega | exact rfl | decide) ?_; intros) | (refine Duo.mk (Clo.mk (by kernel_rfl)) ?_; intros)))
        refine ins_down hw hs hn hf (ih h' rfl) S5 ?_
        intro t' H5 a1 a2 a3 a4 S6
        exact ⟨t', rfl, a1, a2, a3, a4, S6⟩
      · have hm : M / 2 + 1 = d := by omega
        have wi := splitK_inL (b2 := b2) hw hf.le e2 g2
        have ww := splitK_WF (b2 := b2) hd hw hf.le e2 g2 hm (by omega)
        rw [← wi] at hs hn
        have hle := hf.le
        have hxs : (splitK t i (M / 2) b2 k x).xs = t.xs.take i ++ x :: t.xs.drop i := rfl
        have hxl2 : (splitK t i (M / 2) b2 k x).xs.length = t.xs.length + 1 := by rw [hxs]; simp; omega
        have hxi : (splitK t i (M / 2) b2 k x).xs[i]? = some x := by rw [hxs, ins_get hf.le, if_neg (by omega), if_pos rfl]
        have hb : (splitK t i (M / 2) b2 k x).b = t.b := rfl
        generalize hT : splitK t i (M / 2) b2 k x = T at *
        have fin : ∀ en H9, InsPost d c f e (h' + 1) T l en H9 → InsPost d c f e (h' + 1) t l en H9 := by
          rintro en H9 ⟨t', a0, a1, a2, a3, a4, a5⟩
          rw [wi] at a0 a4
          exact ⟨t', a0, a1.trans hb, a2, by omega, a4, a5⟩
        rw [← hb] at *
        obtain ⟨jp, jc, dp, dc, S6⟩ := tr_open S5
        have hI : HasI T.xs (i : Int) x := .nat hxi
        (repeat (first | (refine Step.go ?_; intros) | refine iteB_t (by decide) ?_ | refine iteB_f (by decide) ?_ | (refine Duo.mk (by first | omega | exact rfl | decide) ?_; intros) | (refine Duo.mk (Clo.mk (by kernel_rfl)) ?_; intros)))
        refine Sat.idx (f := Itm.cells) (E := 25) (z := 2) S6 ⟨by omega, by omega, fun r o hr => ?_⟩
        subst hr
        (repeat (first | (refine Step.go ?_; intros) | refine iteB_t (by decide) ?_ | refine iteB_f (by decide) ?_ | (refine Duo.mk (by first | omega | exact rfl | decide) ?_; intros) | (refine Duo.mk (Clo.mk (by kernel_rfl)) ?_; intros)))
        rename_i S7
        refine lessD (a := e) (b := x) S7 ?_
        intro H5 S8
        (repeat (first | (refine Step.go ?_; intros) | refine iteB_t (by decide) ?_ | refine iteB_f (by decide) ?_ | (refine Duo.mk (by first | omega | exact rfl | decide) ?_; intros) | (refine Duo.mk (Clo.mk (by kernel_rfl)) ?_; intros)))
        refine iteB_i (fun h3 => ?_) (fun h3 => ?_)
        · have hf1 : FindAt T.xs e.k i false := by rw [hxs]; exact (find_split hf).1 (of_decide_eq_true h3)
          have S9 : Sat H5 (tr c (h' + 1 + 1) T :: cx c f :: pt _ (.cells ⟨e.cells⟩ 25) :: pt r1 (.cells ⟨[.int .i64 0, .int .i64 0]⟩ 25) :: l) := tr_shut (ip := some ⟨r, o, none⟩) (ic := jc) (cp := dp) (cc := dc) (n := T.xs.length) (m := T.ks.length) (by (refine Sat.to (by assumption) ?_; apply Ent.pick; (focus (repeat (first | exact Sel.here | apply Sel.there))); apply Ent.pick; (focus (repeat (first | exact Sel.here | apply Sel.there))); apply Ent.pick; (focus (repeat (first | exact Sel.here | apply Sel.there))); apply Ent.pick; (focus (repeat (first | exact Sel.here | apply Sel.there))); apply Ent.pick; (focus (repeat (first | exact Sel.here | apply Sel.there))); apply Ent.pick; (focus (repeat (first | exact Sel.here | apply Sel.there))); apply Ent.pick; (focus (repeat (first | exact Sel.here | apply Sel.there))); exact Fits.out))
          refine ins_down ww hs hn hf1 (ih h' rfl) S9 ?_
          intro t' H6 a1 a2 a3 a4 S10
          exact fin _ _ ⟨t', rfl, a1, a2, a3, a4, S10⟩
        · (repeat (first | (refine Step.go ?_; intros) | refine iteB_t (by decide) ?_ | refine iteB_f (by decide) ?_ | (refine Duo.mk (by first | omega | exact rfl | decide) ?_; intros) | (refine Duo.mk (Clo.mk (by kernel_rfl)) ?_; intros)))
          refine lessD (a := x) (b := e) S8 ?_
          intro H6 S9
          (repeat (first | (refine Step.go ?_; intros) | refine iteB_t (by decide) ?_ | refine iteB_f (by decide) ?_ | (refine Duo.mk (by first | omega | exact rfl | decide) ?_; intros) | (refine Duo.mk (Clo.mk (by kernel_rfl)) ?_; intros)))
          refine iteB_i (fun h4 => ?_) (fun h4 => ?_)
          · have hf1 : FindAt T.xs e.k (i + 1) false := by rw [hxs]; exact (find_split hf).2 (of_decide_eq_true h4)
            have S10 : Sat H6 (tr c (h' + 1 + 1) T :: cx c f :: pt _ (.cells ⟨e.cells⟩ 25) :: pt r1 (.cells ⟨[.int .i64 0, .int .i64 0]⟩ 25) :: l) := tr_shut (ip := some ⟨r, o, none⟩) (ic := jc) (cp := dp) (cc := dc) (n := T.xs.length) (m := T.ks.length) (by (refine Sat.to (by assumption) ?_; apply Ent.pick; (focus (repeat (first | exact Sel.here | apply Sel.there))); apply Ent.pick; (focus (repeat (first | exact Sel.here | apply Sel.there))); apply Ent.pick; (focus (repeat (first | exact Sel.here | apply Sel.there))); apply Ent.pick; (focus (repeat (first | exact Sel.here | apply Sel.there))); apply Ent.pick; (focus (repeat (first | exact Sel.here | apply Sel.there))); apply Ent.pick; (focus (repeat (first | exact Sel.here | apply Sel.there))); apply Ent.pick; (focus (repeat (first | exact Sel.here | apply Sel.there))); exact Fits.out))
            rw [wadd (by omega)]
            refine ins_down ww hs hn hf1 (ih h' rfl) S10 ?_
            intro t' H7 a1 a2 a3 a4 S11
            exact fin _ _ ⟨t', rfl, a1, a2, a3, a4, S11⟩
          · have hxe : x.k = e.k := by
              have h5 : ¬ e.k < x.k := of_decide_eq_false h3
              have h6 : ¬ x.k < e.k := of_decide_eq_false h4
              omega
            (repeat (first | (refine Step.go ?_; intros) | refine iteB_t (by decide) ?_ | refine iteB_f (by decide) ?_ | (refine Duo.mk (by first | omega | exact rfl | decide) ?_; intros) | (refine Duo.mk (Clo.mk (by kernel_rfl)) ?_; intros)))
            rename_i S10
            have hI2 : HasI (T.xs.set (Int.toNat (i : Int)) ⟨e.k, x.v⟩) (i : Int) ⟨e.k, x.v⟩ := ⟨by simp; rw [List.getElem?_set_self (by omega)]⟩
            (repeat (first | (refine Step.go ?_; intros) | refine iteB_t (by decide) ?_ | refine iteB_f (by decide) ?_ | (refine Duo.mk (by first | omega | exact rfl | decide) ?_; intros) | (refine Duo.mk (Clo.mk (by kernel_rfl)) ?_; intros)))
            rename_i H12 S12
            obtain ⟨w1, w2, w3⟩ := set_tree (e := e) ww hs hxi hxe
            obtain ⟨g1, g2⟩ := getD_isSome w3
            refine fin _ _ ⟨mkT T.b (T.xs.set i e) T.ks, by rw [g1, g2], rfl, w1, by show _ ≤ (T.xs.set i e).length; rw [List.length_set]; exact Nat.le_refl _, w2, ?_⟩
            simp only [List.set_set, Int.toNat_natCast] at S12
            exact tr_close (ip := some ⟨r, o, none⟩) (ic := jc) (cp := dp) (cc := dc) (n := T.xs.length) (m := T.ks.length) (xs := T.xs.set i e) (ks := T.ks) Sat.fin
theorem ins_ok (hd : 1 ≤ d) (hM : M + 1 = 2 * d) (hM2 : M < 2 ^ 30) : ∀ (h : Nat) (t : Tr (h + 1)), WF d (h + 1) t → Srt (inL (h + 1) t) → (inL (h + 1) t).length < 2 ^ 38 → ∀ (H : Heap) (l : List HP), Sat H (tr c (h + 1) t :: cx c f :: l) →
    CallsH Try.prog 47 ⟨[.pointer (at_ t.b), .agg ⟨e.cells⟩, .int .i64 (M : Int)]⟩ H (InsPost d c f e h t l) := by
  intro h
  induction h with
  | zero =>
    intro t hw hs hn H l S
    exact ins_step hd hM hM2 hw hs hn (fun h' e => by omega) S
  | succ h ih =>
    intro t hw hs hn H l S
    refine ins_step hd hM hM2 hw hs hn (fun h' e => ?_) S
    cases e
    exact ih
end
end Go.Proofs.Ytdgcdjlomindhaa

set_option linter.unusedVariables false
set_option linter.unusedSimpArgs false
set_option linter.unnecessarySimpa false
namespace Go.Proofs.Ytdgcdjlomindhaa
open Go Go.Den Go.Proofs
/-! An element is put in, at the root. -/
abbrev hd (tb c d : Nat) (n : Int) (root : Option Addr) : HP := pt tb (.cells ⟨[.int .i64 (d : Int), .int .i64 n, .pointer root, .pointer (at_ c)]⟩ 77)
section
variable {c f d tb s3 s4 s9 : Nat} {e : Itm} {R : Ending → Heap → Prop}
theorem max_ok {H : Heap} {l : List HP} {w1 w2 w3 : Value} (hd1 : 1 ≤ d) (hd2 : d < 2 ^ 20) (S : Sat H l) (A : At tb (.cells ⟨[.int .i64 (d : Int), w1, w2, w3]⟩ 77) l) : CallsH Try.prog 45 ⟨[.pointer (at_ tb)]⟩ H (Gives (.int .i64 ((2 * d - 1 : Nat) : Int)) H) := by
  have A' : ∀ (l : List HP) [OldAt l H], At tb _ l := atOld (A.get S)
  have S := Sat.start H
  refine F45.calls ?_
  unfold F45.go
  (repeat (first | (refine Step.go ?_; intros) | refine iteB_t (by decide) ?_ | refine iteB_f (by decide) ?_ | (refine Duo.mk (by first | omega | exact rfl | decide) ?_; intros) | (refine Duo.mk (Clo.mk (by kernel_rfl)) ?_; intros)))
  refine ⟨?_, .refl _⟩
  rw [wr (i := (d : Int) * 2) (by omega) (by omega), wr (by omega) (by omega)]
  congr 2
  omega
theorem l4_ok {H : Heap} {l : List HP} {n : Int} {b : Bool} {root : Option Addr} {o : Itm} (hn0 : 0 ≤ n) (hn : n < 2 ^ 40) (S : Sat H (hd tb c d n root :: pt s9 (.cells ⟨o.cells⟩ 25) :: pt s4 (.cells ⟨[.int .i64 0, .int .i64 0]⟩ 25) :: l))
    (K : ∀ H1, Sat H1 (hd tb c d (if b then n else n + 1) root :: l) → R (.returned (.tuple ⟨[.agg ⟨o.cells⟩, .bool b]⟩)) H1) : F32.L4 (at_ tb) s4 s9 b H R := by
  refine F32.L4_step ?_
  unfold F32.L4n
  cases b
  · refine iteB_t (by decide) ?_
    (repeat (first | (refine Step.go ?_; intros) | refine iteB_t (by decide) ?_ | refine iteB_f (by decide) ?_ | (refine Duo.mk (by first | omega | exact rfl | decide) ?_; intros) | (refine Duo.mk (Clo.mk (by kernel_rfl)) ?_; intros)))
    refine K _ ?_
    have hs := ‹Sat _ _›
    rw [wr (by omega) (by omega)] at hs
    show Sat _ (hd tb c d (n + 1) root :: l)
    exact Sat.fin
  · refine iteB_f (by decide) ?_
    (repeat (first | (refine Step.go ?_; intros) | refine iteB_t (by decide) ?_ | refine iteB_f (by decide) ?_ | (refine Duo.mk (by first | omega | exact rfl | decide) ?_; intros) | (refine Duo.mk (Clo.mk (by kernel_rfl)) ?_; intros)))
    refine K _ ?_
    show Sat _ (hd tb c d n root :: l)
    exact Sat.fin
/-- What the tree is when an element was put in. -/
theorem l3_ok {h : Nat} {t : Tr (h + 1)} {H : Heap} {l : List HP} {n : Int} (hd1 : 1 ≤ d) (hd2 : d < 2 ^ 20) (hw : WF d (h + 1) t) (hs : Srt (inL (h + 1) t)) (hn : (inL (h + 1) t).length < 2 ^ 38) (hn0 : 0 ≤ n) (hn2 : n < 2 ^ 40)
    (S : Sat H (hd tb c d n (at_ t.b) :: tr c (h + 1) t :: cx c f :: pt s3 (.cells ⟨e.cells⟩ 25) :: pt s4 (.cells ⟨[.int .i64 0, .int .i64 0]⟩ 25) :: l))
    (K : ∀ (t' : Tr (h + 1)) H1, t'.b = t.b → WF d (h + 1) t' → t.xs.length ≤ t'.xs.length → inL (h + 1) t' = put (inL (h + 1) t) e → Sat H1 (hd tb c d (if (getI (inL (h + 1) t) e.k).isSome then n else n + 1) (at_ t.b) :: tr c (h + 1) t' :: cx c f :: l) →
      R (.returned (.tuple ⟨[.agg ⟨((getI (inL (h + 1) t) e.k).getD ⟨0, 0⟩).cells⟩, .bool (getI (inL (h + 1) t) e.k).isSome]⟩)) H1) :
    F32.L3 (at_ tb) s3 s4 H R := by
  refine F32.L3_step ?_
  unfold F32.L3n
  repeat' (refine And.intro ?_ ?_)
  all_goals
    (repeat (first | (refine Step.go ?_; intros) | refine iteB_t (by decide) ?_ | refine iteB_f (by decide) ?_ | (refine Duo.mk (by first | omega | exact rfl | decide) ?_; intros) | (refine Duo.mk (Clo.mk (by kernel_rfl)) ?_; intros)))
    have Sa := ‹Sat _ _›
    refine gives_i Sa (max_ok hd1 hd2 Sa inferInstance) ?_
    intro _ _ _
    (repeat (first | (refine Step.go ?_; intros) | refine iteB_t (by decide) ?_ | refine iteB_f (by decide) ?_ | (refine Duo.mk (by first | omega | exact rfl | decide) ?_; intros) | (refine Duo.mk (Clo.mk (by kernel_rfl)) ?_; intros)))
    refine call_of (ins_ok (c := c) (f := f) (e := e) (M := 2 * d - 1) hd1 (by omega) (by omega) h t hw hs hn _ _ (by (refine Sat.to (by assumption) ?_; apply Ent.pick; (focus (repeat (first | exact Sel.here | apply Sel.there))); apply Ent.pick; (focus (repeat (first | exact Sel.here | apply Sel.there))); exact Ent.refl))) ?_
    rintro en H2 ⟨t', rfl, a1, a2, a3, a4, a5⟩
    (repeat (first | (refine Step.go ?_; intros) | refine iteB_t (by decide) ?_ | refine iteB_f (by decide) ?_ | (refine Duo.mk (by first | omega | exact rfl | decide) ?_; intros) | (refine Duo.mk (Clo.mk (by kernel_rfl)) ?_; intros)))
    refine l4_ok (c := c) (d := d) (n := n) (root := at_ t.b) (o := (getI (inL (h + 1) t) e.k).getD ⟨0, 0⟩) (l := tr c (h + 1) t' :: cx c f :: l) hn0 hn2 (by (refine Sat.to (by assumption) ?_; apply Ent.pick; (focus (repeat (first | exact Sel.here | apply Sel.there))); apply Ent.pick; (focus (repeat (first | exact Sel.here | apply Sel.there))); apply Ent.pick; (focus (repeat (first | exact Sel.here | apply Sel.there))); apply Ent.pick; (focus (repeat (first | exact Sel.here | apply Sel.there))); apply Ent.pick; (focus (repeat (first | exact Sel.here | apply Sel.there))); exact Fits.out)) ?_
    intro H5 S5
    exact K t' H5 a1 a2 a3 a4 Sat.fin
theorem two_trees {H : Heap} {l : List HP} {h b b2 m : Nat} {xs : List Itm} {ks : List (Tr h)} (S : Sat H (nd b (at_ c) (xs.take m) ((ks.map (bk h)).take (m + 1)) :: nd b2 (at_ c) (xs.drop (m + 1)) ((ks.map (bk h)).drop (m + 1)) :: star (ks.map (tr c h)) :: l)) :
    Sat H (tr c (h + 1) (mkT b (xs.take m) (ks.take (m + 1))) :: tr c (h + 1) (mkT b2 (xs.drop (m + 1)) (ks.drop (m + 1))) :: l) := by
  have ek1 : (ks.map (bk h)).take (m + 1) = (ks.take (m + 1)).map (bk h) := by simp
  have ek2 : (ks.map (bk h)).drop (m + 1) = (ks.drop (m + 1)).map (bk h) := by simp
  rw [ek1, ek2] at S
  have T0 : Sat H (star (ks.map (tr c h)) :: _) := S.to (Ent.bring (Sel.there (Sel.there Sel.here)))
  have T1 := T0.to (starCut (n := m + 1))
  have T2 : Sat H (nd b (at_ c) (xs.take m) ((ks.take (m + 1)).map (bk h)) :: star ((ks.take (m + 1)).map (tr c h)) :: nd b2 (at_ c) (xs.drop (m + 1)) ((ks.drop (m + 1)).map (bk h)) :: star ((ks.drop (m + 1)).map (tr c h)) :: l) := Sat.fin
  have T3 := T2.to nd_tr
  have T4 : Sat H (nd b2 (at_ c) (xs.drop (m + 1)) ((ks.drop (m + 1)).map (bk h)) :: star ((ks.drop (m + 1)).map (tr c h)) :: tr c (h + 1) (mkT b (xs.take m) (ks.take (m + 1))) :: l) := T3.to (Ent.pick (Sel.there Sel.here) (Ent.pick (Sel.there Sel.here) .refl))
  have T5 := T4.to nd_tr
  exact T5.to (Ent.bring (Sel.there Sel.here))
theorem l2_ok {H : Heap} {l : List HP} {h b3 : Nat} {k1 k2 : Tr (h + 1)} {x : Itm} {n : Int} {ip cp : Option Addr} {ic cc : Nat}
    (S : Sat H (hd tb c d n (at_ b3) :: pt b3 (.cells ⟨[.slice ip 1 ic, .slice cp 0 cc, .pointer (at_ c)]⟩ 94) :: sI ip 1 ic [x] :: sP cp 0 cc [] :: tr c (h + 1) k1 :: tr c (h + 1) k2 :: l))
    (K : ∀ H1, Sat H1 (hd tb c d n (at_ b3) :: tr c (h + 1 + 1) (mkT b3 [x] [k1, k2]) :: l) → F32.L3 (at_ tb) s3 s4 H1 R) : F32.L2 (at_ tb) s3 s4 (at_ k2.b) (at_ k1.b) H R := by
  have e0 : ([at_ k1.b, at_ k2.b] : List (Option Addr)) = (([k1, k2] : List (Tr (h + 1))).map (bk (h + 1))).map at_ := rfl
  have fin : ∀ H1 p' c', Sat H1 (hd tb c d n (at_ b3) :: pt b3 (.cells ⟨[.slice ip 1 ic, .slice p' 2 c', .pointer (at_ c)]⟩ 94) :: sI ip 1 ic [x] :: sP p' 2 c' [at_ k1.b, at_ k2.b] :: tr c (h + 1) k1 :: tr c (h + 1) k2 :: l) → F32.L3 (at_ tb) s3 s4 H1 R := by
    intro H1 p' c' S1
    refine K H1 ?_
    rw [e0] at S1
    have T : Sat H1 (tr c (h + 1 + 1) (mkT b3 [x] [k1, k2]) :: hd tb c d n (at_ b3) :: l) := tr_close (b := b3) (xs := [x]) (ks := [k1, k2]) (n := 1) (m := 2) (by
        refine S1.to ?_
        apply Ent.pick; (focus (repeat (first | exact Sel.here | apply Sel.there)))
        apply Ent.pick; (focus (repeat (first | exact Sel.here | apply Sel.there)))
        apply Ent.pick; (focus (repeat (first | exact Sel.here | apply Sel.there)))
        refine Ent.star ?_
        show Ent _ (tr c (h + 1) k1 :: tr c (h + 1) k2 :: hd tb c d n (at_ b3) :: l)
        exact Fits.out)
    exact T.to (Ent.bring (Sel.there Sel.here))
  refine F32.L2_step ?_
  unfold F32.L2n
  refine And.intro ?_ ?_
  all_goals
    (repeat (first | (refine Step.go ?_; intros) | refine iteB_t (by decide) ?_ | refine iteB_f (by decide) ?_ | (refine Duo.mk (by first | omega | exact rfl | decide) ?_; intros) | (refine Duo.mk (Clo.mk (by kernel_rfl)) ?_; intros)))
    have Sa := ‹Sat _ _›
    have Sb := Sat.bring Sa (c := sP cp 0 cc []) (by (repeat (first | exact Sel.here | apply Sel.there)))
    refine Sb.slApp (ys := [at_ k1.b, at_ k2.b]) (cells1 (At.get (l := _) inferInstance Sa)) rfl (fun y _ => rfl) ptr_isC rfl (by decide) (by decide) ?_
    intro p' c' H2 S2
    (repeat (first | (refine Step.go ?_; intros) | refine iteB_t (by decide) ?_ | refine iteB_f (by decide) ?_ | (refine Duo.mk (by first | omega | exact rfl | decide) ?_; intros) | (refine Duo.mk (Clo.mk (by kernel_rfl)) ?_; intros)))
    exact fin _ p' c' (by (refine Sat.to (by assumption) ?_; apply Ent.pick; (focus (repeat (first | exact Sel.here | apply Sel.there))); apply Ent.pick; (focus (repeat (first | exact Sel.here | apply Sel.there))); apply Ent.pick; (focus (repeat (first | exact Sel.here | apply Sel.there))); apply Ent.pick; (focus (repeat (first | exact Sel.here | apply Sel.there))); apply Ent.pick; (focus (repeat (first | exact Sel.here | apply Sel.there))); apply Ent.pick; (focus (repeat (first | exact Sel.here | apply Sel.there))); exact Fits.out))
theorem l1_ok {H : Heap} {l : List HP} {h s6 : Nat} {k1 k2 : Tr (h + 1)} {x : Itm} {n : Int}
    (S : Sat H (hd tb c d n (at_ k1.b) :: tr c (h + 1) k1 :: tr c (h + 1) k2 :: cx c f :: pt s6 (.cells ⟨x.cells⟩ 25) :: l))
    (K : ∀ b3 H1, Sat H1 (hd tb c d n (at_ b3) :: tr c (h + 1 + 1) (mkT b3 [x] [k1, k2]) :: cx c f :: l) → F32.L3 (at_ tb) s3 s4 H1 R) : F32.L1 (at_ tb) s3 s4 s6 (at_ k2.b) H R := by
  refine F32.L1_step ?_
  unfold F32.L1n
  (repeat (first | (refine Step.go ?_; intros) | refine iteB_t (by decide) ?_ | refine iteB_f (by decide) ?_ | (refine Duo.mk (by first | omega | exact rfl | decide) ?_; intros) | (refine Duo.mk (Clo.mk (by kernel_rfl)) ?_; intros)))
  refine call_of (new_ok (c := c) (f := f) (by (refine Sat.to (by assumption) ?_; apply Ent.pick; (focus (repeat (first | exact Sel.here | apply Sel.there))); exact Ent.refl))) ?_
  rintro en H3 ⟨b3, rfl, S3⟩
  obtain ⟨ip, ic, cp, cc, S4⟩ := nd_open S3
  have S4 : Sat H3 (pt b3 (.cells ⟨[.slice ip 0 ic, .slice cp 0 cc, .pointer (at_ c)]⟩ 94) :: sI ip 0 ic [] :: sP cp 0 cc [] :: _) := S4
  clear S3
  (repeat (first | (refine Step.go ?_; intros) | refine iteB_t (by decide) ?_ | refine iteB_f (by decide) ?_ | (refine Duo.mk (by first | omega | exact rfl | decide) ?_; intros) | (refine Duo.mk (Clo.mk (by kernel_rfl)) ?_; intros)))
  refine And.intro ?_ ?_
  all_goals
    (repeat (first | (refine Step.go ?_; intros) | refine iteB_t (by decide) ?_ | refine iteB_f (by decide) ?_ | (refine Duo.mk (by first | omega | exact rfl | decide) ?_; intros) | (refine Duo.mk (Clo.mk (by kernel_rfl)) ?_; intros)))
    rename_i p' c' _ _ _ _
    refine l2_ok (c := c) (d := d) (n := n) (b3 := b3) (k1 := k1) (k2 := k2) (x := x) (ip := p') (ic := c') (cp := cp) (cc := cc) (l := cx c f :: l) (by (refine Sat.to (by assumption) ?_; apply Ent.pick; (focus (repeat (first | exact Sel.here | apply Sel.there))); apply Ent.pick; (focus (repeat (first | exact Sel.here | apply Sel.there))); apply Ent.pick; (focus (repeat (first | exact Sel.here | apply Sel.there))); apply Ent.pick; (focus (repeat (first | exact Sel.here | apply Sel.there))); apply Ent.pick; (focus (repeat (first | exact Sel.here | apply Sel.there))); apply Ent.pick; (focus (repeat (first | exact Sel.here | apply Sel.there))); apply Ent.pick; (focus (repeat (first | exact Sel.here | apply Sel.there))); exact Fits.out)) ?_
    intro H5 S5
    exact K b3 H5 S5
theorem l0_ok {H : Heap} {l : List HP} {h : Nat} {t : Tr (h + 1)} {n : Int} (hd1 : 1 ≤ d) (hd2 : d < 2 ^ 20) (hw : WF d (h + 1) t) (hn : (inL (h + 1) t).length < 2 ^ 38) (hl : 2 * d - 1 ≤ t.xs.length)
    (S : Sat H (hd tb c d n (at_ t.b) :: tr c (h + 1) t :: cx c f :: l))
    (K : ∀ (t' : Tr (h + 1 + 1)) H1, WF d (h + 1 + 1) t' → 1 ≤ t'.xs.length → inL (h + 1 + 1) t' = inL (h + 1) t → Sat H1 (hd tb c d n (at_ t'.b) :: tr c (h + 1 + 1) t' :: cx c f :: l) → F32.L3 (at_ tb) s3 s4 H1 R) : F32.L0 (at_ tb) s3 s4 H R := by
  have hxl := (xs_len (g := inL h) hw.or).1
  rw [inL_succ] at hn
  have hM : IntKind.wrap .i64 (Int.tdiv ((2 * d - 1 : Nat) : Int) 2) = ((d - 1 : Nat) : Int) := by rw [Int.tdiv_eq_ediv_of_nonneg (by omega), wr (by omega) (by omega)]; omega
  obtain ⟨x, hx⟩ : ∃ x, t.xs[d - 1]? = some x := get_of (by omega)
  have hkk : t.ks.map (bk h) = [] ∨ (t.ks.map (bk h)).length = t.xs.length + 1 := by
    rcases hw.or with h | h
    · exact .inl (by simp [h])
    · exact .inr (by simp [h])
  refine F32.L0_step ?_
  unfold F32.L0n
  repeat' (refine And.intro ?_ ?_)
  all_goals
    (repeat (first | (refine Step.go ?_; intros) | refine iteB_t (by decide) ?_ | refine iteB_f (by decide) ?_ | (refine Duo.mk (by first | omega | exact rfl | decide) ?_; intros) | (refine Duo.mk (Clo.mk (by kernel_rfl)) ?_; intros)))
    have Sa := ‹Sat _ _›
    refine gives_i Sa (max_ok hd1 hd2 Sa inferInstance) ?_
    intro H2 _ S2
    (repeat (first | (refine Step.go ?_; intros) | refine iteB_t (by decide) ?_ | refine iteB_f (by decide) ?_ | (refine Duo.mk (by first | omega | exact rfl | decide) ?_; intros) | (refine Duo.mk (Clo.mk (by kernel_rfl)) ?_; intros)))
    rw [hM]
    have Sb := ‹Sat _ _›
    have Sc := (Sat.bring Sb (c := tr c (h + 1) t) (by (repeat (first | exact Sel.here | apply Sel.there)))).to tr_nd
    refine call_of (split_ok (c := c) (f := f) (b := t.b) (i := d - 1) (xs := t.xs) (ks := t.ks.map (bk h)) hx (by omega) hkk (by (refine Sat.to (by assumption) ?_; apply Ent.pick; (focus (repeat (first | exact Sel.here | apply Sel.there))); apply Ent.pick; (focus (repeat (first | exact Sel.here | apply Sel.there))); exact Ent.refl))) ?_
    rintro en H3 ⟨b2, rfl, S3⟩
    (repeat (first | (refine Step.go ?_; intros) | refine iteB_t (by decide) ?_ | refine iteB_f (by decide) ?_ | (refine Duo.mk (by first | omega | exact rfl | decide) ?_; intros) | (refine Duo.mk (Clo.mk (by kernel_rfl)) ?_; intros)))
    have Sd := ‹Sat _ _›
    have Sf := two_trees (c := c) (b := t.b) (b2 := b2) (m := d - 1) (xs := t.xs) (ks := t.ks) (Sd.to (Ent.pick (c := nd t.b (at_ c) (t.xs.take (d - 1)) ((t.ks.map (bk h)).take (d - 1 + 1))) (by (repeat (first | exact Sel.here | apply Sel.there))) (Ent.pick (c := nd b2 (at_ c) (t.xs.drop (d - 1 + 1)) ((t.ks.map (bk h)).drop (d - 1 + 1))) (by (repeat (first | exact Sel.here | apply Sel.there))) (Ent.pick (c := star (t.ks.map (tr c h))) (by (repeat (first | exact Sel.here | apply Sel.there))) .refl))))
    refine l1_ok (c := c) (d := d) (n := n) (k1 := mkT t.b (t.xs.take (d - 1)) (t.ks.take (d - 1 + 1))) (k2 := mkT b2 (t.xs.drop (d - 1 + 1)) (t.ks.drop (d - 1 + 1))) (x := x) (l := l) (by (refine Sat.to (by assumption) ?_; apply Ent.pick; (focus (repeat (first | exact Sel.here | apply Sel.there))); apply Ent.pick; (focus (repeat (first | exact Sel.here | apply Sel.there))); apply Ent.pick; (focus (repeat (first | exact Sel.here | apply Sel.there))); apply Ent.pick; (focus (repeat (first | exact Sel.here | apply Sel.there))); apply Ent.pick; (focus (repeat (first | exact Sel.here | apply Sel.there))); exact Fits.out)) ?_
    intro b3 H5 S5
    refine K (mkT b3 [x] [_, _]) H5 ?_ (Nat.le_refl 1) ?_ S5
    · refine ⟨fun _ => rfl, fun q hq => ?_⟩
      have hq : q ∈ [mkT t.b (t.xs.take (d - 1)) (t.ks.take (d - 1 + 1)), mkT b2 (t.xs.drop (d - 1 + 1)) (t.ks.drop (d - 1 + 1))] := hq
      simp only [List.mem_cons, List.not_mem_nil, or_false] at hq
      rcases hq with rfl | rfl
      · refine ⟨⟨fun hp => ?_, fun q hq => hw.2 q (List.mem_of_mem_take hq)⟩, ?_⟩
        · have := hw.1 hp
          show (t.ks.take (d - 1 + 1)).length = (t.xs.take (d - 1)).length + 1
          rw [List.length_take, List.length_take]; omega
        · show d ≤ (t.xs.take (d - 1)).length + 1
          rw [List.length_take]; omega
      · refine ⟨⟨fun hp => ?_, fun q hq => hw.2 q (List.mem_of_mem_drop hq)⟩, ?_⟩
        · have := hw.1 hp
          show (t.ks.drop (d - 1 + 1)).length = (t.xs.drop (d - 1 + 1)).length + 1
          rw [List.length_drop, List.length_drop]; omega
        · show d ≤ (t.xs.drop (d - 1 + 1)).length + 1
          rw [List.length_drop]; omega
    · have h2 : inL (h + 1) t = _ := node_split (g := inL h) hx hw.or
      rw [h2]
      show inter [x] [inter (t.xs.take (d - 1)) ((t.ks.take (d - 1 + 1)).map (inL h)), inter (t.xs.drop (d - 1 + 1)) ((t.ks.drop (d - 1 + 1)).map (inL h))] = _
      simp [inter, postL]
/-- The state of a tree: its elements. -/
def btp (tb d c : Nat) (L : List Itm) : HP := ex fun (root : Option (Σ h, Tr (h + 1))) => match root with
  | none => star [lift (L = []), hd tb c d 0 none]
  | some ⟨h, t⟩ => star [lift (WF d (h + 1) t ∧ (0 < h → 1 ≤ t.xs.length) ∧ inL (h + 1) t = L ∧ Srt L), hd tb c d L.length (at_ t.b), tr c (h + 1) t]
theorem btp_open {H : Heap} {l : List HP} {L : List Itm} (S : Sat H (btp tb d c L :: l)) : (L = [] ∧ Sat H (hd tb c d 0 none :: l)) ∨ ∃ h, ∃ t : Tr (h + 1), WF d (h + 1) t ∧ (0 < h → 1 ≤ t.xs.length) ∧ inL (h + 1) t = L ∧ Srt L ∧ Sat H (hd tb c d L.length (at_ t.b) :: tr c (h + 1) t :: l) := by
  obtain ⟨root, S1⟩ := S.ex
  cases root with
  | none =>
    obtain ⟨a, b⟩ := (Sat.star S1).lift
    exact .inl ⟨a, b⟩
  | some p =>
    obtain ⟨h, t⟩ := p
    obtain ⟨⟨a1, ar, a2, a3⟩, b⟩ := (Sat.star S1).lift
    exact .inr ⟨h, t, a1, ar, a2, a3, b⟩
theorem btp_none {H : Heap} {l : List HP} (S : Sat H (hd tb c d 0 none :: l)) : Sat H (btp tb d c [] :: l) := S.to (Ent.ex none (.star (.lift rfl .refl)))
theorem btp_some {H : Heap} {l : List HP} {h : Nat} {t : Tr (h + 1)} {L : List Itm} {n : Int} (hw : WF d (h + 1) t) (hr : 0 < h → 1 ≤ t.xs.length) (hL : inL (h + 1) t = L) (hs : Srt L) (hn : n = L.length) (S : Sat H (hd tb c d n (at_ t.b) :: tr c (h + 1) t :: l)) : Sat H (btp tb d c L :: l) := by
  subst hn
  exact S.to (Ent.ex (some ⟨h, t⟩) (.star (.lift ⟨hw, hr, hL, hs⟩ .refl)))
theorem put_srt {L : List Itm} {e : Itm} (hs : Srt L) : Srt (put L e) ∧ (∀ x ∈ put L e, x = e ∨ x ∈ L) ∧ (put L e).length = if (getI L e.k).isSome then L.length else L.length + 1 := by
  induction L with
  | nil => exact ⟨List.pairwise_singleton .., fun x hx => .inl (by simpa [put] using hx), rfl⟩
  | cons a L ih =>
    have hs' := List.pairwise_cons.1 hs
    obtain ⟨i1, i2, i3⟩ := ih hs'.2
    by_cases h1 : e.k < a.k
    · have g : getI (a :: L) e.k = none := get_none (by
        intro b hb
        rcases List.mem_cons.1 hb with rfl | hb
        · exact h1
        · have := hs'.1 b hb; omega)
      rw [put, if_pos h1, g]
      refine ⟨List.pairwise_cons.2 ⟨fun b hb => ?_, hs⟩, fun x hx => ?_, rfl⟩
      · rcases List.mem_cons.1 hb with rfl | hb
        · exact h1
        · have := hs'.1 b hb; omega
      · rcases List.mem_cons.1 hx with rfl | hx
        · exact .inl rfl
        · exact .inr hx
    · by_cases h2 : e.k = a.k
      · rw [put, if_neg h1, if_pos h2, get_hit h2]
        refine ⟨List.pairwise_cons.2 ⟨fun b hb => by have := hs'.1 b hb; omega, hs'.2⟩, fun x hx => ?_, rfl⟩
        rcases List.mem_cons.1 hx with rfl | hx
        · exact .inl rfl
        · exact .inr (List.mem_cons_of_mem _ hx)
      · rw [put, if_neg h1, if_neg h2, getI, if_neg h2]
        refine ⟨List.pairwise_cons.2 ⟨fun b hb => ?_, i1⟩, fun x hx => ?_, ?_⟩
        · rcases i2 b hb with rfl | hb
          · omega
          · exact hs'.1 b hb
        · rcases List.mem_cons.1 hx with rfl | hx
          · exact .inr (List.mem_cons_self ..)
          · rcases i2 x hx with h | h
            · exact .inl h
            · exact .inr (List.mem_cons_of_mem _ h)
        · rw [List.length_cons, i3, List.length_cons]
          split <;> omega
theorem roi_ok {H : Heap} {l : List HP} {L : List Itm} (hd1 : 1 ≤ d) (hd2 : d < 2 ^ 20) (hn : L.length < 2 ^ 38) (S : Sat H (btp tb d c L :: cx c f :: l)) :
    CallsH Try.prog 32 ⟨[.pointer (at_ tb), .agg ⟨e.cells⟩]⟩ H (fun en H1 => en = .returned (.tuple ⟨[.agg ⟨((getI L e.k).getD ⟨0, 0⟩).cells⟩, .bool (getI L e.k).isSome]⟩) ∧ Sat H1 (btp tb d c (put L e) :: cx c f :: l)) := by
  refine F32.calls ?_
  unfold F32.go
  rcases btp_open S with ⟨rfl, S0⟩ | ⟨h, t, hw, hr, hL, hs, S0⟩
  · clear S
    (repeat (first | (refine Step.go ?_; intros) | refine iteB_t (by decide) ?_ | refine iteB_f (by decide) ?_ | (refine Duo.mk (by first | omega | exact rfl | decide) ?_; intros) | (refine Duo.mk (Clo.mk (by kernel_rfl)) ?_; intros)))
    refine call_of (new_ok (c := c) (f := f) (by (refine Sat.to (by assumption) ?_; apply Ent.pick; (focus (repeat (first | exact Sel.here | apply Sel.there))); exact Ent.refl))) ?_
    rintro en H3 ⟨b, rfl, S3⟩
    obtain ⟨ip, ic, cp, cc, S4⟩ := nd_open S3
    have S4 : Sat H3 (pt b (.cells ⟨[.slice ip 0 ic, .slice cp 0 cc, .pointer (at_ c)]⟩ 94) :: sI ip 0 ic [] :: sP cp 0 cc [] :: _) := S4
    (repeat (first | (refine Step.go ?_; intros) | refine iteB_t (by decide) ?_ | refine iteB_f (by decide) ?_ | (refine Duo.mk (by first | omega | exact rfl | decide) ?_; intros) | (refine Duo.mk (Clo.mk (by kernel_rfl)) ?_; intros)))
    refine And.intro ?_ ?_
    all_goals
      (repeat (first | (refine Step.go ?_; intros) | refine iteB_t (by decide) ?_ | refine iteB_f (by decide) ?_ | (refine Duo.mk (by first | omega | exact rfl | decide) ?_; intros) | (refine Duo.mk (Clo.mk (by kernel_rfl)) ?_; intros)))
      refine F32.L5_step ?_
      unfold F32.L5n
      (repeat (first | (refine Step.go ?_; intros) | refine iteB_t (by decide) ?_ | refine iteB_f (by decide) ?_ | (refine Duo.mk (by first | omega | exact rfl | decide) ?_; intros) | (refine Duo.mk (Clo.mk (by kernel_rfl)) ?_; intros)))
      have hs := ‹Sat _ _›
      rw [wr (by omega) (by omega)] at hs
      refine ⟨rfl, ?_⟩
      refine btp_some (h := 0) (t := mkT b [e] []) (L := [e]) (n := 0 + 1) ⟨fun h => absurd h (Nat.lt_irrefl 0), fun k _ => (no0 k).elim⟩ (fun h => absurd h (Nat.lt_irrefl 0)) rfl (List.pairwise_singleton ..) rfl ?_
      have T : Sat _ (tr c 1 (mkT b [e] []) :: hd tb c d (0 + 1) (at_ b) :: cx c f :: l) := tr_close (b := b) (xs := [e]) (ks := []) (n := 0 + 1) (m := 0) (by
        refine hs.to ?_
        apply Ent.pick; (focus (repeat (first | exact Sel.here | apply Sel.there)))
        apply Ent.pick; (focus (repeat (first | exact Sel.here | apply Sel.there)))
        apply Ent.pick; (focus (repeat (first | exact Sel.here | apply Sel.there)))
        refine Ent.star (m := []) ?_
        show Ent _ (hd tb c d (0 + 1) (at_ b) :: cx c f :: l)
        apply Ent.pick; (focus (repeat (first | exact Sel.here | apply Sel.there)))
        apply Ent.pick; (focus (repeat (first | exact Sel.here | apply Sel.there)))
        exact Fits.out)
      exact T.to (Ent.bring (Sel.there Sel.here))
  · clear S
    have hL' : (inL (h + 1) t).length < 2 ^ 38 := by rw [hL]; exact hn
    have hs' : Srt (inL (h + 1) t) := by rw [hL]; exact hs
    have hll := (put_srt (e := e) hs).2.2
    have hxl := (xs_len (g := inL h) hw.or).1
    have hL2 := hL'
    rw [inL_succ] at hL2
    have fin3 : ∀ (h : Nat) (t : Tr (h + 1)) (s3 s4 : Nat) (H : Heap) (l' : List HP), WF d (h + 1) t → (0 < h → 1 ≤ t.xs.length) → inL (h + 1) t = L → Sat H (hd tb c d L.length (at_ t.b) :: tr c (h + 1) t :: cx c f :: pt s3 (.cells ⟨e.cells⟩ 25) :: pt s4 (.cells ⟨[.int .i64 0, .int .i64 0]⟩ 25) :: l) →
        F32.L3 (at_ tb) s3 s4 H (fun en H1 => en = .returned (.tuple ⟨[.agg ⟨((getI L e.k).getD ⟨0, 0⟩).cells⟩, .bool (getI L e.k).isSome]⟩) ∧ Sat H1 (btp tb d c (put L e) :: cx c f :: l)) := by
      intro h t s3 s4 H l' hw hr hL S
      refine l3_ok hd1 hd2 hw (by rw [hL]; exact hs) (by rw [hL]; exact hn) (by omega) (by omega) S ?_
      intro t' H1 a1 a2 ar a3 S1
      rw [hL] at a3 S1 ⊢
      refine ⟨rfl, ?_⟩
      rw [← a1] at S1
      refine btp_some a2 (fun h0 => Nat.le_trans (hr h0) ar) a3 (put_srt hs).1 ?_ S1
      rw [hll]
      split <;> simp
    (repeat (first | (refine Step.go ?_; intros) | refine iteB_t (by decide) ?_ | refine iteB_f (by decide) ?_ | (refine Duo.mk (by first | omega | exact rfl | decide) ?_; intros) | (refine Duo.mk (Clo.mk (by kernel_rfl)) ?_; intros)))
    refine iteB_f (by rfl) ?_
    (repeat (first | (refine Step.go ?_; intros) | refine iteB_t (by decide) ?_ | refine iteB_f (by decide) ?_ | (refine Duo.mk (by first | omega | exact rfl | decide) ?_; intros) | (refine Duo.mk (Clo.mk (by kernel_rfl)) ?_; intros)))
    rename_i r H1 S1 r1 H2 S2
    obtain ⟨ip, ic, cp, cc, S3⟩ := tr_open (Sat.bring S2 (c := tr c (h + 1) t) (by (repeat (first | exact Sel.here | apply Sel.there))))
    refine call_of (mutFor_ok (b := t.b) (At.get (r := t.b) (l := _) inferInstance S3)) ?_
    rintro en H3 ⟨rfl, rfl⟩
    clear S1 S2
    (repeat (first | (refine Step.go ?_; intros) | refine iteB_t (by decide) ?_ | refine iteB_f (by decide) ?_ | (refine Duo.mk (by first | omega | exact rfl | decide) ?_; intros) | (refine Duo.mk (Clo.mk (by kernel_rfl)) ?_; intros)))
    repeat' (refine And.intro ?_ ?_)
    all_goals
      (repeat (first | (refine Step.go ?_; intros) | refine iteB_t (by decide) ?_ | refine iteB_f (by decide) ?_ | (refine Duo.mk (by first | omega | exact rfl | decide) ?_; intros) | (refine Duo.mk (Clo.mk (by kernel_rfl)) ?_; intros)))
      have Sa := ‹Sat _ _›
      refine gives_i Sa (max_ok hd1 hd2 Sa inferInstance) ?_
      intro H4 _ S4
      (repeat (first | (refine Step.go ?_; intros) | refine iteB_t (by decide) ?_ | refine iteB_f (by decide) ?_ | (refine Duo.mk (by first | omega | exact rfl | decide) ?_; intros) | (refine Duo.mk (Clo.mk (by kernel_rfl)) ?_; intros)))
      have Sx := ‹Sat _ _›
      have Sb := tr_shut (t := t) (c := c) (ip := ip) (ic := ic) (cp := cp) (cc := cc) (n := t.xs.length) (m := t.ks.length) (l := hd tb c d L.length (at_ t.b) :: cx c f :: pt r (.cells ⟨e.cells⟩ 25) :: pt r1 (.cells ⟨[.int .i64 0, .int .i64 0]⟩ 25) :: l) (Sx.to Fits.out)
      refine iteB_i (fun h1 => ?_) (fun h1 => ?_)
      · have h2 : 2 * d - 1 ≤ t.xs.length := by have := of_decide_eq_true h1; omega
        refine l0_ok hd1 hd2 hw hL' h2 (l := pt r (.cells ⟨e.cells⟩ 25) :: pt r1 (.cells ⟨[.int .i64 0, .int .i64 0]⟩ 25) :: l) (by (refine Sat.to (by assumption) ?_; apply Ent.pick; (focus (repeat (first | exact Sel.here | apply Sel.there))); apply Ent.pick; (focus (repeat (first | exact Sel.here | apply Sel.there))); apply Ent.pick; (focus (repeat (first | exact Sel.here | apply Sel.there))); exact Fits.out)) ?_
        intro t' H6 a1 ar a2 S6
        exact fin3 _ t' r r1 H6 l a1 (fun _ => ar) (a2.trans hL) S6
      · exact fin3 _ t r r1 _ l hw hr hL (by (refine Sat.to (by assumption) ?_; apply Ent.pick; (focus (repeat (first | exact Sel.here | apply Sel.there))); apply Ent.pick; (focus (repeat (first | exact Sel.here | apply Sel.there))); apply Ent.pick; (focus (repeat (first | exact Sel.here | apply Sel.there))); apply Ent.pick; (focus (repeat (first | exact Sel.here | apply Sel.there))); apply Ent.pick; (focus (repeat (first | exact Sel.here | apply Sel.there))); exact Fits.out))
end
end Go.Proofs.Ytdgcdjlomindhaa

set_option linter.unusedVariables false
set_option linter.unusedSimpArgs false
set_option linter.unnecessarySimpa false
namespace Go.Proofs.Ytdgcdjlomindhaa
open Go Go.Den Go.Proofs
/-! A tree is asked. -/
section
variable {c f d tb : Nat} {e : Itm} {L : List Itm} {H : Heap} {l : List HP}
theorem tget_ok (hn : L.length < 2 ^ 38) (S : Sat H (btp tb d c L :: cx c f :: l)) :
    CallsH Try.prog 34 ⟨[.pointer (at_ tb), .agg ⟨e.cells⟩]⟩ H (fun en H1 => en = .returned (.tuple ⟨[.agg ⟨((getI L e.k).getD ⟨0, 0⟩).cells⟩, .bool (getI L e.k).isSome]⟩) ∧ Sat H1 (btp tb d c L :: cx c f :: l)) := by
  refine F34.calls ?_
  unfold F34.go
  rcases btp_open S with ⟨rfl, S0⟩ | ⟨h, t, hw, hr, hL, hs, S0⟩
  · clear S
    (repeat (first | (refine Step.go ?_; intros) | refine iteB_t (by decide) ?_ | refine iteB_f (by decide) ?_ | (refine Duo.mk (by first | omega | exact rfl | decide) ?_; intros) | (refine Duo.mk (Clo.mk (by kernel_rfl)) ?_; intros)))
    exact ⟨rfl, btp_none Sat.fin⟩
  · clear S
    (repeat (first | (refine Step.go ?_; intros) | refine iteB_t (by decide) ?_ | refine iteB_f (by decide) ?_ | (refine Duo.mk (by first | omega | exact rfl | decide) ?_; intros) | (refine Duo.mk (Clo.mk (by kernel_rfl)) ?_; intros)))
    refine iteB_f (by rfl) ?_
    (repeat (first | (refine Step.go ?_; intros) | refine iteB_t (by decide) ?_ | refine iteB_f (by decide) ?_ | (refine Duo.mk (by first | omega | exact rfl | decide) ?_; intros) | (refine Duo.mk (Clo.mk (by kernel_rfl)) ?_; intros)))
    refine call_of (get_ok (c := c) (f := f) (e := e) h t hw (by rw [hL]; exact hs) (by rw [hL]; omega) _ _ (by (refine Sat.to (by assumption) ?_; apply Ent.pick; (focus (repeat (first | exact Sel.here | apply Sel.there))); apply Ent.pick; (focus (repeat (first | exact Sel.here | apply Sel.there))); exact Ent.refl))) ?_
    rintro en H3 ⟨rfl, S3⟩
    rw [hL]
    (repeat (first | (refine Step.go ?_; intros) | refine iteB_t (by decide) ?_ | refine iteB_f (by decide) ?_ | (refine Duo.mk (by first | omega | exact rfl | decide) ?_; intros) | (refine Duo.mk (Clo.mk (by kernel_rfl)) ?_; intros)))
    exact ⟨rfl, btp_some (t := t) hw hr hL hs rfl Sat.fin⟩
theorem thas_ok (hn : L.length < 2 ^ 38) (S : Sat H (btp tb d c L :: cx c f :: l)) :
    CallsH Try.prog 35 ⟨[.pointer (at_ tb), .agg ⟨e.cells⟩]⟩ H (fun en H1 => en = .returned (.bool (getI L e.k).isSome) ∧ Sat H1 (btp tb d c L :: cx c f :: l)) := by
  refine F35.calls ?_
  unfold F35.go
  (repeat (first | (refine Step.go ?_; intros) | refine iteB_t (by decide) ?_ | refine iteB_f (by decide) ?_ | (refine Duo.mk (by first | omega | exact rfl | decide) ?_; intros) | (refine Duo.mk (Clo.mk (by kernel_rfl)) ?_; intros)))
  refine call_of (tget_ok (e := e) (f := f) (d := d) (c := c) (L := L) hn (by (refine Sat.to (by assumption) ?_; apply Ent.pick; (focus (repeat (first | exact Sel.here | apply Sel.there))); apply Ent.pick; (focus (repeat (first | exact Sel.here | apply Sel.there))); exact Ent.refl))) ?_
  rintro en H3 ⟨rfl, S3⟩
  (repeat (first | (refine Step.go ?_; intros) | refine iteB_t (by decide) ?_ | refine iteB_f (by decide) ?_ | (refine Duo.mk (by first | omega | exact rfl | decide) ?_; intros) | (refine Duo.mk (Clo.mk (by kernel_rfl)) ?_; intros)))
  exact ⟨rfl, Sat.fin⟩
theorem tmin_ok (hd2 : 2 ≤ d) (S : Sat H (btp tb d c L :: cx c f :: l)) :
    CallsH Try.prog 36 ⟨[.pointer (at_ tb)]⟩ H (fun en H1 => en = .returned (.tuple ⟨[.agg ⟨(L.head?.getD ⟨0, 0⟩).cells⟩, .bool L.head?.isSome]⟩) ∧ Sat H1 (btp tb d c L :: cx c f :: l)) := by
  refine F36.calls ?_
  unfold F36.go
  rcases btp_open S with ⟨rfl, S0⟩ | ⟨h, t, hw, hr, hL, hs, S0⟩
  · clear S
    (repeat (first | (refine Step.go ?_; intros) | refine iteB_t (by decide) ?_ | refine iteB_f (by decide) ?_ | (refine Duo.mk (by first | omega | exact rfl | decide) ?_; intros) | (refine Duo.mk (Clo.mk (by kernel_rfl)) ?_; intros)))
    rename_i r H1 S1
    refine call_of (F50.calls (R := fun en H1 => en = .returned (.tuple ⟨[.agg ⟨[.int .i64 0, .int .i64 0]⟩, .bool false]⟩) ∧ Sat H1 (pt r (.cells ⟨[.int .i64 0, .int .i64 0]⟩ 25) :: hd tb c d 0 none :: cx c f :: l)) ?_) ?_
    · unfold F50.go
      (repeat (first | (refine Step.go ?_; intros) | refine iteB_t (by decide) ?_ | refine iteB_f (by decide) ?_ | (refine Duo.mk (by first | omega | exact rfl | decide) ?_; intros) | (refine Duo.mk (Clo.mk (by kernel_rfl)) ?_; intros)))
      exact ⟨rfl, Sat.fin⟩
    · rintro en H2 ⟨rfl, S2⟩
      (repeat (first | (refine Step.go ?_; intros) | refine iteB_t (by decide) ?_ | refine iteB_f (by decide) ?_ | (refine Duo.mk (by first | omega | exact rfl | decide) ?_; intros) | (refine Duo.mk (Clo.mk (by kernel_rfl)) ?_; intros)))
      exact ⟨rfl, btp_none Sat.fin⟩
  · clear S
    (repeat (first | (refine Step.go ?_; intros) | refine iteB_t (by decide) ?_ | refine iteB_f (by decide) ?_ | (refine Duo.mk (by first | omega | exact rfl | decide) ?_; intros) | (refine Duo.mk (Clo.mk (by kernel_rfl)) ?_; intros)))
    rename_i r H1 S1
    refine call_of (F50.calls (R := fun en H1 => en = .returned (.tuple ⟨[.agg ⟨(L.head?.getD ⟨0, 0⟩).cells⟩, .bool L.head?.isSome]⟩) ∧ Sat H1 (tr c (h + 1) t :: pt r (.cells ⟨[.int .i64 0, .int .i64 0]⟩ 25) :: hd tb c d L.length (at_ t.b) :: cx c f :: l)) ?_) ?_
    · unfold F50.go
      (repeat (first | (refine Step.go ?_; intros) | refine iteB_t (by decide) ?_ | refine iteB_f (by decide) ?_ | (refine Duo.mk (by first | omega | exact rfl | decide) ?_; intros) | (refine Duo.mk (Clo.mk (by kernel_rfl)) ?_; intros)))
      refine iteB_f (by rfl) ?_
      refine min_loop (c := c) hd2 h t hw _ (pt r (.cells ⟨[.int .i64 0, .int .i64 0]⟩ 25) :: hd tb c d L.length (at_ t.b) :: cx c f :: l) (by (refine Sat.to (by assumption) ?_; apply Ent.pick; (focus (repeat (first | exact Sel.here | apply Sel.there))); apply Ent.pick; (focus (repeat (first | exact Sel.here | apply Sel.there))); apply Ent.pick; (focus (repeat (first | exact Sel.here | apply Sel.there))); apply Ent.pick; (focus (repeat (first | exact Sel.here | apply Sel.there))); apply Ent.pick; (focus (repeat (first | exact Sel.here | apply Sel.there))); exact Ent.refl)) ?_
      intro H3 S3
      rw [hL]
      exact ⟨rfl, S3⟩
    · rintro en H2 ⟨rfl, S2⟩
      (repeat (first | (refine Step.go ?_; intros) | refine iteB_t (by decide) ?_ | refine iteB_f (by decide) ?_ | (refine Duo.mk (by first | omega | exact rfl | decide) ?_; intros) | (refine Duo.mk (Clo.mk (by kernel_rfl)) ?_; intros)))
      exact ⟨rfl, btp_some (t := t) hw hr hL hs rfl Sat.fin⟩
theorem tmax_ok (hd2 : 2 ≤ d) (hn : L.length < 2 ^ 38) (S : Sat H (btp tb d c L :: cx c f :: l)) :
    CallsH Try.prog 37 ⟨[.pointer (at_ tb)]⟩ H (fun en H1 => en = .returned (.tuple ⟨[.agg ⟨(L.getLast?.getD ⟨0, 0⟩).cells⟩, .bool L.getLast?.isSome]⟩) ∧ Sat H1 (btp tb d c L :: cx c f :: l)) := by
  refine F37.calls ?_
  unfold F37.go
  rcases btp_open S with ⟨rfl, S0⟩ | ⟨h, t, hw, hr, hL, hs, S0⟩
  · clear S
    (repeat (first | (refine Step.go ?_; intros) | refine iteB_t (by decide) ?_ | refine iteB_f (by decide) ?_ | (refine Duo.mk (by first | omega | exact rfl | decide) ?_; intros) | (refine Duo.mk (Clo.mk (by kernel_rfl)) ?_; intros)))
    rename_i r H1 S1
    refine call_of (F51.calls (R := fun en H1 => en = .returned (.tuple ⟨[.agg ⟨[.int .i64 0, .int .i64 0]⟩, .bool false]⟩) ∧ Sat H1 (pt r (.cells ⟨[.int .i64 0, .int .i64 0]⟩ 25) :: hd tb c d 0 none :: cx c f :: l)) ?_) ?_
    · unfold F51.go
      (repeat (first | (refine Step.go ?_; intros) | refine iteB_t (by decide) ?_ | refine iteB_f (by decide) ?_ | (refine Duo.mk (by first | omega | exact rfl | decide) ?_; intros) | (refine Duo.mk (Clo.mk (by kernel_rfl)) ?_; intros)))
      exact ⟨rfl, Sat.fin⟩
    · rintro en H2 ⟨rfl, S2⟩
      (repeat (first | (refine Step.go ?_; intros) | refine iteB_t (by decide) ?_ | refine iteB_f (by decide) ?_ | (refine Duo.mk (by first | omega | exact rfl | decide) ?_; intros) | (refine Duo.mk (Clo.mk (by kernel_rfl)) ?_; intros)))
      exact ⟨rfl, btp_none Sat.fin⟩
  · clear S
    (repeat (first | (refine Step.go ?_; intros) | refine iteB_t (by decide) ?_ | refine iteB_f (by decide) ?_ | (refine Duo.mk (by first | omega | exact rfl | decide) ?_; intros) | (refine Duo.mk (Clo.mk (by kernel_rfl)) ?_; intros)))
    rename_i r H1 S1
    refine call_of (F51.calls (R := fun en H1 => en = .returned (.tuple ⟨[.agg ⟨(L.getLast?.getD ⟨0, 0⟩).cells⟩, .bool L.getLast?.isSome]⟩) ∧ Sat H1 (tr c (h + 1) t :: pt r (.cells ⟨[.int .i64 0, .int .i64 0]⟩ 25) :: hd tb c d L.length (at_ t.b) :: cx c f :: l)) ?_) ?_
    · unfold F51.go
      (repeat (first | (refine Step.go ?_; intros) | refine iteB_t (by decide) ?_ | refine iteB_f (by decide) ?_ | (refine Duo.mk (by first | omega | exact rfl | decide) ?_; intros) | (refine Duo.mk (Clo.mk (by kernel_rfl)) ?_; intros)))
      refine iteB_f (by rfl) ?_
      refine max_loop (c := c) hd2 h t hw (by rw [hL]; omega) _ (pt r (.cells ⟨[.int .i64 0, .int .i64 0]⟩ 25) :: hd tb c d L.length (at_ t.b) :: cx c f :: l) (by (refine Sat.to (by assumption) ?_; apply Ent.pick; (focus (repeat (first | exact Sel.here | apply Sel.there))); apply Ent.pick; (focus (repeat (first | exact Sel.here | apply Sel.there))); apply Ent.pick; (focus (repeat (first | exact Sel.here | apply Sel.there))); apply Ent.pick; (focus (repeat (first | exact Sel.here | apply Sel.there))); apply Ent.pick; (focus (repeat (first | exact Sel.here | apply Sel.there))); exact Ent.refl)) ?_
      intro H3 S3
      rw [hL]
      exact ⟨rfl, S3⟩
    · rintro en H2 ⟨rfl, S2⟩
      (repeat (first | (refine Step.go ?_; intros) | refine iteB_t (by decide) ?_ | refine iteB_f (by decide) ?_ | (refine Duo.mk (by first | omega | exact rfl | decide) ?_; intros) | (refine Duo.mk (Clo.mk (by kernel_rfl)) ?_; intros)))
      exact ⟨rfl, btp_some (t := t) hw hr hL hs rfl Sat.fin⟩
theorem tlen_ok (S : Sat H (btp tb d c L :: cx c f :: l)) :
    CallsH Try.prog 40 ⟨[.pointer (at_ tb)]⟩ H (fun en H1 => en = .returned (.int .i64 (L.length : Int)) ∧ Sat H1 (btp tb d c L :: cx c f :: l)) := by
  refine F40.calls ?_
  unfold F40.go
  rcases btp_open S with ⟨rfl, S0⟩ | ⟨h, t, hw, hr, hL, hs, S0⟩
  · (repeat (first | (refine Step.go ?_; intros) | refine iteB_t (by decide) ?_ | refine iteB_f (by decide) ?_ | (refine Duo.mk (by first | omega | exact rfl | decide) ?_; intros) | (refine Duo.mk (Clo.mk (by kernel_rfl)) ?_; intros)))
    exact ⟨rfl, S⟩
  · (repeat (first | (refine Step.go ?_; intros) | refine iteB_t (by decide) ?_ | refine iteB_f (by decide) ?_ | (refine Duo.mk (by first | omega | exact rfl | decide) ?_; intros) | (refine Duo.mk (Clo.mk (by kernel_rfl)) ?_; intros)))
    exact ⟨rfl, S⟩
theorem empty_ok : CallsH Try.prog 73 ⟨[]⟩ H (Gives (.agg ⟨[.int .i64 0, .int .i64 0, .bool false]⟩) H) := by
  refine F73.calls ?_
  unfold F73.go
  have S := Sat.start H
  (repeat (first | (refine Step.go ?_; intros) | refine iteB_t (by decide) ?_ | refine iteB_f (by decide) ?_ | (refine Duo.mk (by first | omega | exact rfl | decide) ?_; intros) | (refine Duo.mk (Clo.mk (by kernel_rfl)) ?_; intros)))
  exact ⟨rfl, Sat.grown⟩
variable {rq ro : Nat} {k t a b ff u : Int} {g : Bool}
theorem tasc_ok (hn : L.length < 2 ^ 38) (S : Sat H (btp tb d c L :: cx c f :: acc rq [] :: pt ro (.cells ⟨opC k t a b ff u g⟩ 30) :: l)) :
    CallsH Try.prog 54 ⟨[.pointer (at_ tb), FV.v (visF rq ro)]⟩ H (fun en H1 => en = .returned (.tuple ⟨[]⟩) ∧ Sat H1 (btp tb d c L :: cx c f :: acc rq L :: pt ro (.cells ⟨opC k t a b ff u g⟩ 30) :: l)) := by
  refine F54.calls (iterator := visF rq ro) ?_
  unfold F54.go
  rcases btp_open S with ⟨rfl, S0⟩ | ⟨h, t', hw, hr, hL, hs, S0⟩
  · clear S
    (repeat (first | (refine Step.go ?_; intros) | refine iteB_t (by decide) ?_ | refine iteB_f (by decide) ?_ | (refine Duo.mk (by first | omega | exact rfl | decide) ?_; intros) | (refine Duo.mk (Clo.mk (by kernel_rfl)) ?_; intros)))
    exact ⟨rfl, btp_none S0⟩
  · clear S
    (repeat (first | (refine Step.go ?_; intros) | refine iteB_t (by decide) ?_ | refine iteB_f (by decide) ?_ | (refine Duo.mk (by first | omega | exact rfl | decide) ?_; intros) | (refine Duo.mk (Clo.mk (by kernel_rfl)) ?_; intros)))
    refine iteB_f (by rfl) ?_
    (repeat (first | (refine Step.go ?_; intros) | refine iteB_t (by decide) ?_ | refine iteB_f (by decide) ?_ | (refine Duo.mk (by first | omega | exact rfl | decide) ?_; intros) | (refine Duo.mk (Clo.mk (by kernel_rfl)) ?_; intros)))
    refine gives_i S0 empty_ok ?_
    intro H1 x1 S1
    (repeat (first | (refine Step.go ?_; intros) | refine iteB_t (by decide) ?_ | refine iteB_f (by decide) ?_ | (refine Duo.mk (by first | omega | exact rfl | decide) ?_; intros) | (refine Duo.mk (Clo.mk (by kernel_rfl)) ?_; intros)))
    refine gives_i S1 empty_ok ?_
    intro H2 x2 S2
    (repeat (first | (refine Step.go ?_; intros) | refine iteB_t (by decide) ?_ | refine iteB_f (by decide) ?_ | (refine Duo.mk (by first | omega | exact rfl | decide) ?_; intros) | (refine Duo.mk (Clo.mk (by kernel_rfl)) ?_; intros)))
    refine call_of (asc_ok (c := c) (rq := rq) (ro := ro) (k := k) (t := t) (a := a) (b := b) (f := ff) (u := u) (g := g) h d t' hw false [] H2 _ (by rw [hL]; simp; omega) (by (refine Sat.to (by assumption) ?_; apply Ent.pick; (focus (repeat (first | exact Sel.here | apply Sel.there))); apply Ent.pick; (focus (repeat (first | exact Sel.here | apply Sel.there))); apply Ent.pick; (focus (repeat (first | exact Sel.here | apply Sel.there))); exact Ent.refl))) ?_
    rintro en H3 ⟨hit', rfl, S3⟩
    (repeat (first | (refine Step.go ?_; intros) | refine iteB_t (by decide) ?_ | refine iteB_f (by decide) ?_ | (refine Duo.mk (by first | omega | exact rfl | decide) ?_; intros) | (refine Duo.mk (Clo.mk (by kernel_rfl)) ?_; intros)))
    rw [List.nil_append, hL] at S3
    exact ⟨rfl, btp_some (t := t') hw hr hL hs rfl Sat.fin⟩
theorem tdesc_ok (hn : L.length < 2 ^ 38) (S : Sat H (btp tb d c L :: cx c f :: acc rq [] :: pt ro (.cells ⟨opC k t a b ff u g⟩ 30) :: l)) :
    CallsH Try.prog 58 ⟨[.pointer (at_ tb), FV.v (visF rq ro)]⟩ H (fun en H1 => en = .returned (.tuple ⟨[]⟩) ∧ Sat H1 (btp tb d c L :: cx c f :: acc rq L.reverse :: pt ro (.cells ⟨opC k t a b ff u g⟩ 30) :: l)) := by
  refine F58.calls (iterator := visF rq ro) ?_
  unfold F58.go
  rcases btp_open S with ⟨rfl, S0⟩ | ⟨h, t', hw, hr, hL, hs, S0⟩
  · clear S
    (repeat (first | (refine Step.go ?_; intros) | refine iteB_t (by decide) ?_ | refine iteB_f (by decide) ?_ | (refine Duo.mk (by first | omega | exact rfl | decide) ?_; intros) | (refine Duo.mk (Clo.mk (by kernel_rfl)) ?_; intros)))
    exact ⟨rfl, btp_none S0⟩
  · clear S
    (repeat (first | (refine Step.go ?_; intros) | refine iteB_t (by decide) ?_ | refine iteB_f (by decide) ?_ | (refine Duo.mk (by first | omega | exact rfl | decide) ?_; intros) | (refine Duo.mk (Clo.mk (by kernel_rfl)) ?_; intros)))
    refine iteB_f (by rfl) ?_
    (repeat (first | (refine Step.go ?_; intros) | refine iteB_t (by decide) ?_ | refine iteB_f (by decide) ?_ | (refine Duo.mk (by first | omega | exact rfl | decide) ?_; intros) | (refine Duo.mk (Clo.mk (by kernel_rfl)) ?_; intros)))
    refine gives_i S0 empty_ok ?_
    intro H1 x1 S1
    (repeat (first | (refine Step.go ?_; intros) | refine iteB_t (by decide) ?_ | refine iteB_f (by decide) ?_ | (refine Duo.mk (by first | omega | exact rfl | decide) ?_; intros) | (refine Duo.mk (Clo.mk (by kernel_rfl)) ?_; intros)))
    refine gives_i S1 empty_ok ?_
    intro H2 x2 S2
    (repeat (first | (refine Step.go ?_; intros) | refine iteB_t (by decide) ?_ | refine iteB_f (by decide) ?_ | (refine Duo.mk (by first | omega | exact rfl | decide) ?_; intros) | (refine Duo.mk (Clo.mk (by kernel_rfl)) ?_; intros)))
    refine call_of (desc_ok (c := c) (rq := rq) (ro := ro) (k := k) (t := t) (a := a) (b := b) (f := ff) (u := u) (g := g) h d t' hw false [] H2 _ (by rw [hL]; simp; omega) (by (refine Sat.to (by assumption) ?_; apply Ent.pick; (focus (repeat (first | exact Sel.here | apply Sel.there))); apply Ent.pick; (focus (repeat (first | exact Sel.here | apply Sel.there))); apply Ent.pick; (focus (repeat (first | exact Sel.here | apply Sel.there))); exact Ent.refl))) ?_
    rintro en H3 ⟨hit', rfl, S3⟩
    (repeat (first | (refine Step.go ?_; intros) | refine iteB_t (by decide) ?_ | refine iteB_f (by decide) ?_ | (refine Duo.mk (by first | omega | exact rfl | decide) ?_; intros) | (refine Duo.mk (Clo.mk (by kernel_rfl)) ?_; intros)))
    rw [List.nil_append, hL] at S3
    exact ⟨rfl, btp_some (t := t') hw hr hL hs rfl Sat.fin⟩
end
end Go.Proofs.Ytdgcdjlomindhaa

set_option linter.unusedVariables false
set_option linter.unusedSimpArgs false
set_option linter.unnecessarySimpa false
namespace Go.Proofs.Ytdgcdjlomindhaa
open Go Go.Den Go.Proofs
/-! One operation of a tree. -/
structure Op where
  kind : Int
  tree : Int
  e : Itm
  from_ : Int
  till : Int
  most : Int
  again : Bool
deriving DecidableEq
abbrev Op.cells (o : Op) : List Value := [.int .i64 o.kind, .int .i64 o.tree, .int .i64 o.e.k, .int .i64 o.e.v, .int .i64 o.from_, .int .i64 o.till, .int .i64 o.most, .bool o.again]
instance {k t a b f u m : Int} {g : Bool} : Enc Op.cells [.int .i64 k, .int .i64 t, .int .i64 a, .int .i64 b, .int .i64 f, .int .i64 u, .int .i64 m, .bool g] ⟨k, t, ⟨a, b⟩, f, u, m, g⟩ := ⟨rfl⟩
/-- An answer: whether, how many, an element, a list; where the list lies. -/
structure Ans where
  ok : Bool
  n : Int
  e : Itm
  L : List Itm
  p : Option Addr
  m : Nat
  c : Nat
abbrev Ans.cells (a : Ans) : List Value := [.int .i64 0, .bool a.ok, .int .i64 a.n, .int .i64 a.e.k, .int .i64 a.e.v, .slice a.p a.m a.c]
def aP (a : Ans) : HP := sI a.p a.m a.c a.L
abbrev AA : Type := Bool × Int × Itm × List Itm
def Ans.abs (a : Ans) : AA := (a.ok, a.n, a.e, a.L)
def opDo (L : List Itm) (o : Op) : List Itm × AA :=
  if o.kind = 1 then (put L o.e, (getI L o.e.k).isSome, 0, (getI L o.e.k).getD ⟨0, 0⟩, [])
  else if o.kind = 2 then (delI L o.e.k, (getI L o.e.k).isSome, 0, (getI L o.e.k).getD ⟨0, 0⟩, [])
  else if o.kind = 3 then (L, (getI L o.e.k).isSome, 0, (getI L o.e.k).getD ⟨0, 0⟩, [])
  else if o.kind = 4 then (L, (getI L o.e.k).isSome, 0, ⟨0, 0⟩, [])
  else if o.kind = 5 then (L, L.head?.isSome, 0, L.head?.getD ⟨0, 0⟩, [])
  else if o.kind = 6 then (L, L.getLast?.isSome, 0, L.getLast?.getD ⟨0, 0⟩, [])
  else if o.kind = 9 then (L, false, L.length, ⟨0, 0⟩, [])
  else if o.kind = 10 then (L, false, 0, ⟨0, 0⟩, L)
  else (L, false, 0, ⟨0, 0⟩, L.reverse)
/-- What is shown of an operation. -/
def Good (o : Op) : Prop := ∀ {tb d c f : Nat} {L : List Itm} {H : Heap} {l : List HP}, 2 ≤ d → d < 2 ^ 20 → L.length < 2 ^ 37 → Sat H (btp tb d c L :: cx c f :: l) →
  CallsH Try.prog 23 ⟨[.pointer (at_ tb), .agg ⟨o.cells⟩]⟩ H (fun en H1 => ∃ a : Ans, en = .returned (.agg ⟨a.cells⟩) ∧ a.abs = (opDo L o).2 ∧ Sat H1 (aP a :: btp tb d c (opDo L o).1 :: cx c f :: l))
section
variable {c f d tb : Nat} {e : Itm} {L : List Itm} {H : Heap} {l : List HP}
theorem acc_new {r : Nat} (S : Sat H (pt r (.cells ⟨[.slice none 0 0]⟩ 22) :: l)) : Sat H (acc r [] :: l) :=
  S.to (Ent.ex (none, 0) (.star (.cons (.slNil .refl))))
theorem acc_open {r : Nat} (S : Sat H (acc r L :: l)) : ∃ p c, Sat H (pt r (.cells ⟨[.slice p L.length c]⟩ 22) :: sI p L.length c L :: l) := by
  obtain ⟨⟨p, c⟩, S1⟩ := S.ex
  exact ⟨p, c, S1.star⟩
theorem listed_asc {t a b ff u : Int} {g : Bool} (hn : L.length < 2 ^ 38) (S : Sat H (btp tb d c L :: cx c f :: l)) :
    CallsH Try.prog 42 ⟨[.pointer (at_ tb), .agg ⟨opC 10 t a b ff u g⟩]⟩ H (fun en H1 => ∃ p k, en = .returned (.slice p L.length k) ∧ Sat H1 (sI p L.length k L :: btp tb d c L :: cx c f :: l)) := by
  refine F42.calls ?_
  unfold F42.go
  (repeat (first | (refine Step.go ?_; intros) | refine iteB_t (by decide) ?_ | refine iteB_f (by decide) ?_ | (refine Duo.mk (by first | omega | exact rfl | decide) ?_; intros) | (refine Duo.mk (Clo.mk (by kernel_rfl)) ?_; intros)))
  rename_i r H1 S1 r1 H2 S2 r2 H3 S3 H4 S4 H5 S5 r3 H6 S6 H7 S7 H8 S8
  have T := acc_new (S8.to (Ent.bring (c := pt r1 _) (by (repeat (first | exact Sel.here | apply Sel.there)))))
  refine call_of (tasc_ok (d := d) (c := c) (f := f) (L := L) (rq := r1) (ro := r) (k := 10) (t := t) (a := a) (b := b) (ff := ff) (u := u) (g := g) hn (by (refine Sat.to (by assumption) ?_; apply Ent.pick; (focus (repeat (first | exact Sel.here | apply Sel.there))); apply Ent.pick; (focus (repeat (first | exact Sel.here | apply Sel.there))); apply Ent.pick; (focus (repeat (first | exact Sel.here | apply Sel.there))); apply Ent.pick; (focus (repeat (first | exact Sel.here | apply Sel.there))); exact Ent.refl))) ?_
  rintro en H9 ⟨rfl, S9⟩
  obtain ⟨p, k, S10⟩ := acc_open (S9.to (Ent.bring (Sel.there (Sel.there Sel.here))))
  (repeat (first | (refine Step.go ?_; intros) | refine iteB_t (by decide) ?_ | refine iteB_f (by decide) ?_ | (refine Duo.mk (by first | omega | exact rfl | decide) ?_; intros) | (refine Duo.mk (Clo.mk (by kernel_rfl)) ?_; intros)))
  exact ⟨p, k, rfl, Sat.fin⟩
theorem listed_desc {t a b ff u : Int} {g : Bool} (hn : L.length < 2 ^ 38) (S : Sat H (btp tb d c L :: cx c f :: l)) :
    CallsH Try.prog 42 ⟨[.pointer (at_ tb), .agg ⟨opC 14 t a b ff u g⟩]⟩ H (fun en H1 => ∃ p k, en = .returned (.slice p L.length k) ∧ Sat H1 (sI p L.length k L.reverse :: btp tb d c L :: cx c f :: l)) := by
  refine F42.calls ?_
  unfold F42.go
  (repeat (first | (refine Step.go ?_; intros) | refine iteB_t (by decide) ?_ | refine iteB_f (by decide) ?_ | (refine Duo.mk (by first | omega | exact rfl | decide) ?_; intros) | (refine Duo.mk (Clo.mk (by kernel_rfl)) ?_; intros)))
  rename_i r H1 S1 r1 H2 S2 r2 H3 S3 H4 S4 H5 S5 r3 H6 S6 H7 S7 H8 S8
  have T := acc_new (S8.to (Ent.bring (c := pt r1 _) (by (repeat (first | exact Sel.here | apply Sel.there)))))
  refine call_of (tdesc_ok (d := d) (c := c) (f := f) (L := L) (rq := r1) (ro := r) (k := 14) (t := t) (a := a) (b := b) (ff := ff) (u := u) (g := g) hn (by (refine Sat.to (by assumption) ?_; apply Ent.pick; (focus (repeat (first | exact Sel.here | apply Sel.there))); apply Ent.pick; (focus (repeat (first | exact Sel.here | apply Sel.there))); apply Ent.pick; (focus (repeat (first | exact Sel.here | apply Sel.there))); apply Ent.pick; (focus (repeat (first | exact Sel.here | apply Sel.there))); exact Ent.refl))) ?_
  rintro en H9 ⟨rfl, S9⟩
  obtain ⟨p, k, S10⟩ := acc_open (S9.to (Ent.bring (Sel.there (Sel.there Sel.here))))
  rw [List.length_reverse] at S10
  (repeat (first | (refine Step.go ?_; intros) | refine iteB_t (by decide) ?_ | refine iteB_f (by decide) ?_ | (refine Duo.mk (by first | omega | exact rfl | decide) ?_; intros) | (refine Duo.mk (Clo.mk (by kernel_rfl)) ?_; intros)))
  exact ⟨p, k, rfl, Sat.fin⟩
end
theorem good1 {t k v ff u : Int} {g : Bool} : Good ⟨1, t, ⟨k, v⟩, ff, u, 0, g⟩ := by
  intro tb d c f L H l hd hd2 hn S
  show CallsH Try.prog 23 ⟨[.pointer (at_ tb), .agg ⟨[.int .i64 1, .int .i64 t, .int .i64 k, .int .i64 v, .int .i64 ff, .int .i64 u, .int .i64 0, .bool g]⟩]⟩ H _
  refine F23.calls ?_
  unfold F23.go
  (repeat (first | (refine Step.go ?_; intros) | refine iteB_t (by decide) ?_ | refine iteB_f (by decide) ?_ | (refine Duo.mk (by first | omega | exact rfl | decide) ?_; intros) | (refine Duo.mk (Clo.mk (by kernel_rfl)) ?_; intros)))
  refine call_of (roi_ok (e := ⟨k, v⟩) (d := d) (c := c) (f := f) (L := L) (by omega) hd2 (by omega) (by (refine Sat.to (by assumption) ?_; apply Ent.pick; (focus (repeat (first | exact Sel.here | apply Sel.there))); apply Ent.pick; (focus (repeat (first | exact Sel.here | apply Sel.there))); exact Ent.refl))) ?_
  rintro en H1 ⟨rfl, S1⟩
  (repeat (first | (refine Step.go ?_; intros) | refine iteB_t (by decide) ?_ | refine iteB_f (by decide) ?_ | (refine Duo.mk (by first | omega | exact rfl | decide) ?_; intros) | (refine Duo.mk (Clo.mk (by kernel_rfl)) ?_; intros)))
  refine ⟨⟨_, _, ⟨_, _⟩, [], none, 0, 0⟩, rfl, rfl, ?_⟩
  refine Sat.to (by assumption) (Ent.slNil ?_)
  apply Ent.pick; (focus (repeat (first | exact Sel.here | apply Sel.there)))
  apply Ent.pick; (focus (repeat (first | exact Sel.here | apply Sel.there)))
  exact Fits.out
theorem good3 {t k v ff u : Int} {g : Bool} : Good ⟨3, t, ⟨k, v⟩, ff, u, 0, g⟩ := by
  intro tb d c f L H l hd hd2 hn S
  show CallsH Try.prog 23 ⟨[.pointer (at_ tb), .agg ⟨[.int .i64 3, .int .i64 t, .int .i64 k, .int .i64 v, .int .i64 ff, .int .i64 u, .int .i64 0, .bool g]⟩]⟩ H _
  refine F23.calls ?_
  unfold F23.go
  (repeat (first | (refine Step.go ?_; intros) | refine iteB_t (by decide) ?_ | refine iteB_f (by decide) ?_ | (refine Duo.mk (by first | omega | exact rfl | decide) ?_; intros) | (refine Duo.mk (Clo.mk (by kernel_rfl)) ?_; intros)))
  refine call_of (tget_ok (e := ⟨k, v⟩) (d := d) (c := c) (f := f) (L := L) (by omega) (by (refine Sat.to (by assumption) ?_; apply Ent.pick; (focus (repeat (first | exact Sel.here | apply Sel.there))); apply Ent.pick; (focus (repeat (first | exact Sel.here | apply Sel.there))); exact Ent.refl))) ?_
  rintro en H1 ⟨rfl, S1⟩
  (repeat (first | (refine Step.go ?_; intros) | refine iteB_t (by decide) ?_ | refine iteB_f (by decide) ?_ | (refine Duo.mk (by first | omega | exact rfl | decide) ?_; intros) | (refine Duo.mk (Clo.mk (by kernel_rfl)) ?_; intros)))
  refine ⟨⟨_, _, ⟨_, _⟩, [], none, 0, 0⟩, rfl, rfl, ?_⟩
  refine Sat.to (by assumption) (Ent.slNil ?_)
  apply Ent.pick; (focus (repeat (first | exact Sel.here | apply Sel.there)))
  apply Ent.pick; (focus (repeat (first | exact Sel.here | apply Sel.there)))
  exact Fits.out
theorem good4 {t k v ff u : Int} {g : Bool} : Good ⟨4, t, ⟨k, v⟩, ff, u, 0, g⟩ := by
  intro tb d c f L H l hd hd2 hn S
  show CallsH Try.prog 23 ⟨[.pointer (at_ tb), .agg ⟨[.int .i64 4, .int .i64 t, .int .i64 k, .int .i64 v, .int .i64 ff, .int .i64 u, .int .i64 0, .bool g]⟩]⟩ H _
  refine F23.calls ?_
  unfold F23.go
  (repeat (first | (refine Step.go ?_; intros) | refine iteB_t (by decide) ?_ | refine iteB_f (by decide) ?_ | (refine Duo.mk (by first | omega | exact rfl | decide) ?_; intros) | (refine Duo.mk (Clo.mk (by kernel_rfl)) ?_; intros)))
  refine call_of (thas_ok (e := ⟨k, v⟩) (d := d) (c := c) (f := f) (L := L) (by omega) (by (refine Sat.to (by assumption) ?_; apply Ent.pick; (focus (repeat (first | exact Sel.here | apply Sel.there))); apply Ent.pick; (focus (repeat (first | exact Sel.here | apply Sel.there))); exact Ent.refl))) ?_
  rintro en H1 ⟨rfl, S1⟩
  (repeat (first | (refine Step.go ?_; intros) | refine iteB_t (by decide) ?_ | refine iteB_f (by decide) ?_ | (refine Duo.mk (by first | omega | exact rfl | decide) ?_; intros) | (refine Duo.mk (Clo.mk (by kernel_rfl)) ?_; intros)))
  refine ⟨⟨_, _, ⟨_, _⟩, [], none, 0, 0⟩, rfl, rfl, ?_⟩
  refine Sat.to (by assumption) (Ent.slNil ?_)
  apply Ent.pick; (focus (repeat (first | exact Sel.here | apply Sel.there)))
  apply Ent.pick; (focus (repeat (first | exact Sel.here | apply Sel.there)))
  exact Fits.out
theorem good5 {t k v ff u : Int} {g : Bool} : Good ⟨5, t, ⟨k, v⟩, ff, u, 0, g⟩ := by
  intro tb d c f L H l hd hd2 hn S
  show CallsH Try.prog 23 ⟨[.pointer (at_ tb), .agg ⟨[.int .i64 5, .int .i64 t, .int .i64 k, .int .i64 v, .int .i64 ff, .int .i64 u, .int .i64 0, .bool g]⟩]⟩ H _
  refine F23.calls ?_
  unfold F23.go
  (repeat (first | (refine Step.go ?_; intros) | refine iteB_t (by decide) ?_ | refine iteB_f (by decide) ?_ | (refine Duo.mk (by first | omega | exact rfl | decide) ?_; intros) | (refine Duo.mk (Clo.mk (by kernel_rfl)) ?_; intros)))
  refine call_of (tmin_ok (d := d) (c := c) (f := f) (L := L) hd (by (refine Sat.to (by assumption) ?_; apply Ent.pick; (focus (repeat (first | exact Sel.here | apply Sel.there))); apply Ent.pick; (focus (repeat (first | exact Sel.here | apply Sel.there))); exact Ent.refl))) ?_
  rintro en H1 ⟨rfl, S1⟩
  (repeat (first | (refine Step.go ?_; intros) | refine iteB_t (by decide) ?_ | refine iteB_f (by decide) ?_ | (refine Duo.mk (by first | omega | exact rfl | decide) ?_; intros) | (refine Duo.mk (Clo.mk (by kernel_rfl)) ?_; intros)))
  refine ⟨⟨_, _, ⟨_, _⟩, [], none, 0, 0⟩, rfl, rfl, ?_⟩
  refine Sat.to (by assumption) (Ent.slNil ?_)
  apply Ent.pick; (focus (repeat (first | exact Sel.here | apply Sel.there)))
  apply Ent.pick; (focus (repeat (first | exact Sel.here | apply Sel.there)))
  exact Fits.out
theorem good6 {t k v ff u : Int} {g : Bool} : Good ⟨6, t, ⟨k, v⟩, ff, u, 0, g⟩ := by
  intro tb d c f L H l hd hd2 hn S
  show CallsH Try.prog 23 ⟨[.pointer (at_ tb), .agg ⟨[.int .i64 6, .int .i64 t, .int .i64 k, .int .i64 v, .int .i64 ff, .int .i64 u, .int .i64 0, .bool g]⟩]⟩ H _
  refine F23.calls ?_
  unfold F23.go
  (repeat (first | (refine Step.go ?_; intros) | refine iteB_t (by decide) ?_ | refine iteB_f (by decide) ?_ | (refine Duo.mk (by first | omega | exact rfl | decide) ?_; intros) | (refine Duo.mk (Clo.mk (by kernel_rfl)) ?_; intros)))
  refine call_of (tmax_ok (d := d) (c := c) (f := f) (L := L) hd (by omega) (by (refine Sat.to (by assumption) ?_; apply Ent.pick; (focus (repeat (first | exact Sel.here | apply Sel.there))); apply Ent.pick; (focus (repeat (first | exact Sel.here | apply Sel.there))); exact Ent.refl))) ?_
  rintro en H1 ⟨rfl, S1⟩
  (repeat (first | (refine Step.go ?_; intros) | refine iteB_t (by decide) ?_ | refine iteB_f (by decide) ?_ | (refine Duo.mk (by first | omega | exact rfl | decide) ?_; intros) | (refine Duo.mk (Clo.mk (by kernel_rfl)) ?_; intros)))
  refine ⟨⟨_, _, ⟨_, _⟩, [], none, 0, 0⟩, rfl, rfl, ?_⟩
  refine Sat.to (by assumption) (Ent.slNil ?_)
  apply Ent.pick; (focus (repeat (first | exact Sel.here | apply Sel.there)))
  apply Ent.pick; (focus (repeat (first | exact Sel.here | apply Sel.there)))
  exact Fits.out
theorem good9 {t k v ff u : Int} {g : Bool} : Good ⟨9, t, ⟨k, v⟩, ff, u, 0, g⟩ := by
  intro tb d c f L H l hd hd2 hn S
  show CallsH Try.prog 23 ⟨[.pointer (at_ tb), .agg ⟨[.int .i64 9, .int .i64 t, .int .i64 k, .int .i64 v, .int .i64 ff, .int .i64 u, .int .i64 0, .bool g]⟩]⟩ H _
  refine F23.calls ?_
  unfold F23.go
  (repeat (first | (refine Step.go ?_; intros) | refine iteB_t (by decide) ?_ | refine iteB_f (by decide) ?_ | (refine Duo.mk (by first | omega | exact rfl | decide) ?_; intros) | (refine Duo.mk (Clo.mk (by kernel_rfl)) ?_; intros)))
  refine call_of (tlen_ok (d := d) (c := c) (f := f) (L := L) (by (refine Sat.to (by assumption) ?_; apply Ent.pick; (focus (repeat (first | exact Sel.here | apply Sel.there))); apply Ent.pick; (focus (repeat (first | exact Sel.here | apply Sel.there))); exact Ent.refl))) ?_
  rintro en H1 ⟨rfl, S1⟩
  (repeat (first | (refine Step.go ?_; intros) | refine iteB_t (by decide) ?_ | refine iteB_f (by decide) ?_ | (refine Duo.mk (by first | omega | exact rfl | decide) ?_; intros) | (refine Duo.mk (Clo.mk (by kernel_rfl)) ?_; intros)))
  refine ⟨⟨_, _, ⟨_, _⟩, [], none, 0, 0⟩, rfl, rfl, ?_⟩
  refine Sat.to (by assumption) (Ent.slNil ?_)
  apply Ent.pick; (focus (repeat (first | exact Sel.here | apply Sel.there)))
  apply Ent.pick; (focus (repeat (first | exact Sel.here | apply Sel.there)))
  exact Fits.out
theorem good10 {t k v ff u : Int} {g : Bool} : Good ⟨10, t, ⟨k, v⟩, ff, u, 0, g⟩ := by
  intro tb d c f L H l hd hd2 hn S
  show CallsH Try.prog 23 ⟨[.pointer (at_ tb), .agg ⟨[.int .i64 10, .int .i64 t, .int .i64 k, .int .i64 v, .int .i64 ff, .int .i64 u, .int .i64 0, .bool g]⟩]⟩ H _
  refine F23.calls ?_
  unfold F23.go
  (repeat (first | (refine Step.go ?_; intros) | refine iteB_t (by decide) ?_ | refine iteB_f (by decide) ?_ | (refine Duo.mk (by first | omega | exact rfl | decide) ?_; intros) | (refine Duo.mk (Clo.mk (by kernel_rfl)) ?_; intros)))
  refine call_of (listed_asc (d := d) (c := c) (f := f) (L := L) (by omega) (by (refine Sat.to (by assumption) ?_; apply Ent.pick; (focus (repeat (first | exact Sel.here | apply Sel.there))); apply Ent.pick; (focus (repeat (first | exact Sel.here | apply Sel.there))); exact Ent.refl))) ?_
  rintro en H1 ⟨p, q, rfl, S1⟩
  (repeat (first | (refine Step.go ?_; intros) | refine iteB_t (by decide) ?_ | refine iteB_f (by decide) ?_ | (refine Duo.mk (by first | omega | exact rfl | decide) ?_; intros) | (refine Duo.mk (Clo.mk (by kernel_rfl)) ?_; intros)))
  refine ⟨⟨false, 0, ⟨0, 0⟩, L, p, L.length, q⟩, rfl, rfl, ?_⟩
  show Sat _ (sI p L.length q L :: btp tb d c L :: cx c f :: l)
  exact Sat.fin
theorem good14 {t k v ff u : Int} {g : Bool} : Good ⟨14, t, ⟨k, v⟩, ff, u, 0, g⟩ := by
  intro tb d c f L H l hd hd2 hn S
  show CallsH Try.prog 23 ⟨[.pointer (at_ tb), .agg ⟨[.int .i64 14, .int .i64 t, .int .i64 k, .int .i64 v, .int .i64 ff, .int .i64 u, .int .i64 0, .bool g]⟩]⟩ H _
  refine F23.calls ?_
  unfold F23.go
  (repeat (first | (refine Step.go ?_; intros) | refine iteB_t (by decide) ?_ | refine iteB_f (by decide) ?_ | (refine Duo.mk (by first | omega | exact rfl | decide) ?_; intros) | (refine Duo.mk (Clo.mk (by kernel_rfl)) ?_; intros)))
  refine call_of (listed_desc (d := d) (c := c) (f := f) (L := L) (by omega) (by (refine Sat.to (by assumption) ?_; apply Ent.pick; (focus (repeat (first | exact Sel.here | apply Sel.there))); apply Ent.pick; (focus (repeat (first | exact Sel.here | apply Sel.there))); exact Ent.refl))) ?_
  rintro en H1 ⟨p, q, rfl, S1⟩
  (repeat (first | (refine Step.go ?_; intros) | refine iteB_t (by decide) ?_ | refine iteB_f (by decide) ?_ | (refine Duo.mk (by first | omega | exact rfl | decide) ?_; intros) | (refine Duo.mk (Clo.mk (by kernel_rfl)) ?_; intros)))
  refine ⟨⟨false, 0, ⟨0, 0⟩, L.reverse, p, L.length, q⟩, rfl, rfl, ?_⟩
  show Sat _ (sI p L.length q L.reverse :: btp tb d c L :: cx c f :: l)
  exact Sat.fin
end Go.Proofs.Ytdgcdjlomindhaa

set_option linter.unusedVariables false
set_option linter.unusedSimpArgs false
set_option linter.unnecessarySimpa false
namespace Go.Proofs.Ytdgcdjlomindhaa
open Go Go.Den Go.Proofs
/-! Operations played. -/
theorem grow_p {P : Program} {f : FuncId} {args : List Value} {H : Heap} {l : List HP} {ι : Type} {v : ι → Value} {φ : ι → Prop} {m : ι → List HP} {Q : List PanicEntry → Heap → Prop} {K : Value → Heap → Prop} (S : Sat H l) (hc : CallsH P f ⟨args⟩ H (fun e H1 => ∃ x, e = .returned (v x) ∧ φ x ∧ Sat H1 (m x ++ [Den.old H]))) (k : ∀ x H1, φ x → ExtH H H1 → Sat H1 (m x ++ l) → K (v x) H1) : callD P f args H Q K :=
  CallsH.mono hc fun e H1 ⟨x, he, hp, S1⟩ => by subst he; exact k x H1 hp S1.ext_of (S1.onto S)
abbrev ansC : Ans → List Value := fun a => a.cells
abbrev sA (p : Option Addr) (n c : Nat) (ys : List Ans) : HP := sl ansC 32 6 p n c ys
def runA : List Itm → List Op → List AA
  | _, [] => []
  | L, o :: ops => (opDo L o).2 :: runA (opDo L o).1 ops
def runL : List Itm → List Op → List Itm
  | L, [] => L
  | L, o :: ops => runL (opDo L o).1 ops
theorem runA_len : ∀ (ops : List Op) (L : List Itm), (runA L ops).length = ops.length
  | [], _ => rfl
  | o :: ops, L => by simp [runA, runA_len ops]
theorem runA_app : ∀ (ops : List Op) (L : List Itm) (more : List Op), runA L (ops ++ more) = runA L ops ++ runA (runL L ops) more
  | [], _, _ => rfl
  | o :: ops, L, more => by simp [runA, runL, runA_app ops]
theorem runL_app : ∀ (ops : List Op) (L : List Itm) (more : List Op), runL L (ops ++ more) = runL (runL L ops) more
  | [], _, _ => rfl
  | o :: ops, L, more => by simp [runL, runL_app ops]
theorem put_len (L : List Itm) (e : Itm) : (put L e).length ≤ L.length + 1 := by
  induction L with
  | nil => simp [put]
  | cons a L ih =>
    rw [put]
    split
    · simp
    · split
      · simp
      · simp only [List.length_cons]; omega
theorem opDo_len (L : List Itm) (o : Op) : (opDo L o).1.length ≤ L.length + 1 := by
  unfold opDo
  by_cases h1 : o.kind = 1
  · rw [if_pos h1]; exact put_len L o.e
  · rw [if_neg h1]
    by_cases h2 : o.kind = 2
    · rw [if_pos h2]; exact Nat.le_trans (List.length_filter_le _ _) (Nat.le_succ _)
    · rw [if_neg h2]; repeat' (split; exact Nat.le_succ _)
      exact Nat.le_succ _
section
variable {c f d tb : Nat} {H : Heap} {l : List HP}
theorem newT_ok (hd1 : 2 ≤ d) (S : Sat H l) : CallsH Try.prog 20 ⟨[.int .i64 (d : Int), FV.v lessF]⟩ H (fun en H1 => ∃ tb c f, en = .returned (.pointer (at_ tb)) ∧ Sat H1 (btp tb d c [] :: cx c f :: l)) := by
  refine F20.calls (less := lessF) ?_
  unfold F20.go
  refine call_of (F31.calls (R := fun en H1 => ∃ f, en = .returned (.pointer (at_ f)) ∧ Sat H1 (fre f :: l)) ?_) ?_
  · unfold F31.go
    (repeat (first | (refine Step.go ?_; intros) | refine iteB_t (by decide) ?_ | refine iteB_f (by decide) ?_ | (refine Duo.mk (by first | omega | exact rfl | decide) ?_; intros) | (refine Duo.mk (Clo.mk (by kernel_rfl)) ?_; intros)))
    rename_i r H1 S1 f H2 S2
    refine ⟨f, rfl, ?_⟩
    refine fre_close (fb := []) (p := some ⟨r, 0, none⟩) (n := 32) (m := 0) (by decide) ?_
    refine S2.to (.cons ?_)
    refine Ent.trans (Ent.slClose (f := ptC) (xs := []) (n := 0) (c := 32) (z := 1) (pre := []) (sp := repZ [.pointer none] 32) (o := 0) rfl (by simp) (by omega) rfl (by rw [repZ_length]; decide)) ?_
    refine .cons ?_
    exact Ent.star (m := []) .refl
  · rintro en H1 ⟨f, rfl, S1⟩
    (repeat (first | (refine Step.go ?_; intros) | refine iteB_t (by decide) ?_ | refine iteB_f (by decide) ?_ | (refine Duo.mk (by first | omega | exact rfl | decide) ?_; intros) | (refine Duo.mk (Clo.mk (by kernel_rfl)) ?_; intros)))
    refine call_of (F30.calls (less := lessF) (R := fun en H1 => ∃ tb c, en = .returned (.pointer (at_ tb)) ∧ Sat H1 (hd tb c d 0 none :: pt c (.cells ⟨[.pointer (at_ f), .func (.func 21) ⟨[]⟩ ⟨[]⟩]⟩ 73) :: fre f :: l)) ?_) ?_
    · unfold F30.go
      refine iteB_f (by simp; omega) ?_
      refine F30.L0_step ?_
      unfold F30.L0n
      (repeat (first | (refine Step.go ?_; intros) | refine iteB_t (by decide) ?_ | refine iteB_f (by decide) ?_ | (refine Duo.mk (by first | omega | exact rfl | decide) ?_; intros) | (refine Duo.mk (Clo.mk (by kernel_rfl)) ?_; intros)))
      rename_i c H2 S2 tb H3 S3
      exact ⟨tb, c, rfl, S3⟩
    · rintro en H2 ⟨tb, c, rfl, S2⟩
      (repeat (first | (refine Step.go ?_; intros) | refine iteB_t (by decide) ?_ | refine iteB_f (by decide) ?_ | (refine Duo.mk (by first | omega | exact rfl | decide) ?_; intros) | (refine Duo.mk (Clo.mk (by kernel_rfl)) ?_; intros)))
      refine ⟨tb, c, f, rfl, ?_⟩
      have S3 := btp_none S2
      exact S3.to (.cons (Ent.star .refl))
theorem snoc_in {α : Type} {F : α → HP} {A : List α} {k : α} {m : List HP} : Ent (F k :: star (A.map F) :: m) (star ((A ++ [k]).map F) :: m) := by
  have := kid_in (F := F) (A := A) (B := []) (k := k) (m := m)
  rwa [List.append_nil] at this
theorem ans_isC {a : Ans} : ∀ v ∈ [a].flatMap ansC, isCell v = true := by
  intro v hv
  simp at hv
  rcases hv with rfl | rfl | rfl | rfl | rfl | rfl <;> rfl
theorem play_loop {H0 : Heap} {q : Option Addr} {nq cq rt : Nat} {ops : List Op} {R : Ending → Heap → Prop} (hR : RowsAt Op.cells 8 H0 q ops) (hq : ops.length = nq) (hn : nq < 2 ^ 36) (hd1 : 2 ≤ d) (hd2 : d < 2 ^ 20) (hg : ∀ o ∈ ops, Good o ∧ o.tree = 0 ∧ o.kind ≠ 18) :
    ∀ (todo : List Op) (i : Nat) (L : List Itm) (ys : List Ans) (p : Option Addr) (n k : Nat) (H : Heap), ops.drop i = todo → L.length ≤ i → ys.length = i → Sat H (btp tb d c L :: cx c f :: pt rt (.cells ⟨[.pointer (at_ tb)]⟩ 53) :: sA p n k ys :: star (ys.map aP) :: [old H0]) →
      (∀ p n k zs H1, zs.map Ans.abs = runA L todo → Sat H1 (sA p n k (ys ++ zs) :: star ((ys ++ zs).map aP) :: [old H0]) → R (.returned (.slice p n k)) H1) →
      F12.L0 q nq cq (some ⟨rt, 0, none⟩) 1 1 p n k (i : Int) H R := by
  have RC : RowsC H0 q Op.cells 8 ops := ⟨hR⟩
  intro todo
  induction todo with
  | nil =>
    intro i L ys p n k H ht hL hy S K
    have hi : nq ≤ i := by have := congrArg List.length ht; simp at this; omega
    refine F12.L0_step ?_
    unfold F12.L0n
    refine iteB_f (by simp; omega) ?_
    refine K p n k [] H rfl ?_
    rw [List.append_nil]
    exact Sat.fin
  | cons o todo ih =>
    intro i L ys p n k H ht hL hy S K
    have hi : i < nq := by
      rcases Nat.lt_or_ge i nq with h | h
      · exact h
      · rw [List.drop_eq_nil_of_le (by omega)] at ht; cases ht
    obtain ⟨o', e1, e2, e3⟩ := cut_at' (l := ops) (i := i) (by omega)
    rw [e3] at ht
    have ho : o' = o := (List.cons.inj ht).1
    have ht2 : ops.drop (i + 1) = todo := (List.cons.inj ht).2
    subst ho
    obtain ⟨g1, g2, g3⟩ := hg o' (List.mem_of_getElem? e2)
    have hI : HasI ops (i : Int) o' := .nat e2
    have hyn := (Sat.slLen S (.tail _ (.tail _ (.tail _ (.head _))))).1
    refine F12.L0_step ?_
    unfold F12.L0n
    refine iteB_t (by simp; omega) ?_
    refine RC.idx hq ⟨by omega, by omega, fun a ha => ?_⟩
    subst ha
    (repeat (first | (refine Step.go ?_; intros) | refine iteB_t (by decide) ?_ | refine iteB_f (by decide) ?_ | (refine Duo.mk (by first | omega | exact rfl | decide) ?_; intros) | (refine Duo.mk (Clo.mk (by kernel_rfl)) ?_; intros)))
    refine iteB_f (by rw [g2]; decide) ?_
    (repeat (first | (refine Step.go ?_; intros) | refine iteB_t (by decide) ?_ | refine iteB_f (by decide) ?_ | (refine Duo.mk (by first | omega | exact rfl | decide) ?_; intros) | (refine Duo.mk (Clo.mk (by kernel_rfl)) ?_; intros)))
    refine iteB_f (by rw [g2]; decide) ?_
    refine F12.L1_step ?_
    unfold F12.L1n
    (repeat (first | (refine Step.go ?_; intros) | refine iteB_t (by decide) ?_ | refine iteB_f (by decide) ?_ | (refine Duo.mk (by first | omega | exact rfl | decide) ?_; intros) | (refine Duo.mk (Clo.mk (by kernel_rfl)) ?_; intros)))
    refine iteB_f (by simpa using g3) ?_
    (repeat (first | (refine Step.go ?_; intros) | refine iteB_t (by decide) ?_ | refine iteB_f (by decide) ?_ | (refine Duo.mk (by first | omega | exact rfl | decide) ?_; intros) | (refine Duo.mk (Clo.mk (by kernel_rfl)) ?_; intros)))
    rw [show o'.tree.toNat * 1 = 0 by rw [g2]; rfl]
    (repeat (first | (refine Step.go ?_; intros) | refine iteB_t (by decide) ?_ | refine iteB_f (by decide) ?_ | (refine Duo.mk (by first | omega | exact rfl | decide) ?_; intros) | (refine Duo.mk (Clo.mk (by kernel_rfl)) ?_; intros)))
    refine call_of (g1 (tb := tb) (c := c) (f := f) (L := L) (l := pt rt (.cells ⟨[.pointer (at_ tb)]⟩ 53) :: sA p n k ys :: star (ys.map aP) :: [old H0]) hd1 hd2 (by omega) (by (refine Sat.to (by assumption) ?_; apply Ent.pick; (focus (repeat (first | exact Sel.here | apply Sel.there))); apply Ent.pick; (focus (repeat (first | exact Sel.here | apply Sel.there))); apply Ent.pick; (focus (repeat (first | exact Sel.here | apply Sel.there))); apply Ent.pick; (focus (repeat (first | exact Sel.here | apply Sel.there))); apply Ent.pick; (focus (repeat (first | exact Sel.here | apply Sel.there))); apply Ent.pick; (focus (repeat (first | exact Sel.here | apply Sel.there))); exact Fits.out))) ?_
    rintro en H1 ⟨a, rfl, ha, S1⟩
    (repeat (first | (refine Step.go ?_; intros) | refine iteB_t (by decide) ?_ | refine iteB_f (by decide) ?_ | (refine Duo.mk (by first | omega | exact rfl | decide) ?_; intros) | (refine Duo.mk (Clo.mk (by kernel_rfl)) ?_; intros)))
    have Sa := ‹Sat _ _›
    have Sb := Sat.bring Sa (c := sA p n k ys) (by (repeat (first | exact Sel.here | apply Sel.there)))
    refine Sb.slApp (ys := [a]) (cells1 (At.get (l := _) inferInstance Sa)) rfl (fun y _ => rfl) ans_isC rfl (by decide) (by omega) ?_
    intro p' k' H2 S2
    refine F12.L3_step ?_
    unfold F12.L3n
    rw [wadd (by omega)]
    have T1 : Sat H2 (aP a :: star (ys.map aP) :: _) := S2.to (Ent.pick (by (repeat (first | exact Sel.here | apply Sel.there))) (Ent.pick (by (repeat (first | exact Sel.here | apply Sel.there))) .refl))
    have T2 := T1.to snoc_in
    refine ih (i + 1) (opDo L o').1 (ys ++ [a]) p' (n + 1) k' H2 ht2 (by have := opDo_len L o'; omega) (by simp [hy]) (by (refine Sat.to (by assumption) ?_; apply Ent.pick; (focus (repeat (first | exact Sel.here | apply Sel.there))); apply Ent.pick; (focus (repeat (first | exact Sel.here | apply Sel.there))); apply Ent.pick; (focus (repeat (first | exact Sel.here | apply Sel.there))); apply Ent.pick; (focus (repeat (first | exact Sel.here | apply Sel.there))); apply Ent.pick; (focus (repeat (first | exact Sel.here | apply Sel.there))); apply Ent.pick; (focus (repeat (first | exact Sel.here | apply Sel.there))); exact Fits.out)) ?_
    intro p2 n2 k2 zs H3 hz S3
    rw [List.append_assoc] at S3
    exact K p2 n2 k2 (a :: zs) H3 (by rw [List.map_cons, hz, ha]; rfl) S3
theorem play_ok {q : Option Addr} {nq cq : Nat} {ops : List Op} (hR : RowsAt Op.cells 8 H q ops) (hq : ops.length = nq) (hn : nq < 2 ^ 36) (hd1 : 2 ≤ d) (hd2 : d ≤ 64) (hg : ∀ o ∈ ops, Good o ∧ o.tree = 0 ∧ o.kind ≠ 18) :
    CallsH Try.prog 12 ⟨[.int .i64 (d : Int), .slice q nq cq]⟩ H (fun en H1 => ∃ x : Option Addr × Nat × Nat × List Ans, en = .returned (.slice x.1 x.2.1 x.2.2.1) ∧ x.2.2.2.map Ans.abs = runA [] ops ∧ Sat H1 ([sA x.1 x.2.1 x.2.2.1 x.2.2.2, star (x.2.2.2.map aP)] ++ [old H])) := by
  refine F12.calls ?_
  unfold F12.go
  have hde : (if (64 : Int) < (if (2 : Int) > (d : Int) then (2 : Int) else (d : Int)) then (64 : Int) else (if (2 : Int) > (d : Int) then (2 : Int) else (d : Int))) = (d : Int) := by
    rw [if_neg (show ¬ (2 : Int) > (d : Int) by omega), if_neg (by omega)]
  rw [hde]
  refine call_of (newT_ok (d := d) hd1 (Sat.start H)) ?_
  rintro en H1 ⟨tb, c, f, rfl, S1⟩
  (repeat (first | (refine Step.go ?_; intros) | refine iteB_t (by decide) ?_ | refine iteB_f (by decide) ?_ | (refine Duo.mk (by first | omega | exact rfl | decide) ?_; intros) | (refine Duo.mk (Clo.mk (by kernel_rfl)) ?_; intros)))
  rename_i rt H2 S2
  rw [show (0 : Int) = ((0 : Nat) : Int) from rfl]
  refine play_loop (tb := tb) (c := c) (f := f) hR hq hn hd1 (by omega) hg ops 0 [] [] none 0 0 H2 rfl (by simp) rfl ?_ ?_
  · refine S2.to ?_
    apply Ent.pick; (focus (repeat (first | exact Sel.here | apply Sel.there)))
    apply Ent.pick; (focus (repeat (first | exact Sel.here | apply Sel.there)))
    apply Ent.pick; (focus (repeat (first | exact Sel.here | apply Sel.there)))
    refine .slNil ?_
    exact Ent.star (m := []) .refl
  · intro p n k zs H3 hz S3
    exact ⟨(p, n, k, zs), rfl, hz, S3⟩
end
end Go.Proofs.Ytdgcdjlomindhaa

set_option linter.unusedVariables false
set_option linter.unusedSimpArgs false
set_option linter.unnecessarySimpa false
namespace Go.Proofs.Ytdgcdjlomindhaa
open Go Go.Den Go.Proofs
/-! Answers held against each other. -/
theorem eu3 : Try.prog.underlying 3 = some (.int .i64) := by kernel_rfl
theorem ea3 : aggT Try.prog 3 = false := by kernel_rfl
theorem eqT25 {op : BinOp} {a0 b0 : Int} {a1 b1 : Int} {k : Bool → Prop} (h : k ([a0 == b0, a1 == b1].all id)) : rawB Try.prog op 25 (.agg ⟨[.int .i64 a0, .int .i64 a1]⟩) (.agg ⟨[.int .i64 b0, .int .i64 b1]⟩) k := by
  refine rawB_struct (P := Try.prog) (fs := #[{ name := "Key", type := 3, offset := 0, embedded := false, tag := "", pkgPath := "", byteOffset := 0 }, { name := "Val", type := 3, offset := 1, embedded := false, tag := "", pkgPath := "", byteOffset := 8 }])
    (bs := [a0 == b0, a1 == b1]) (by kernel_rfl) (by kernel_rfl) (by kernel_rfl) ?_ h
  refine .cons (by decide) (part_leaf eu3 ea3 rfl) (part_leaf eu3 ea3 rfl) (equalIn_int eu3) ?_
  refine .cons (by decide) (part_leaf eu3 ea3 rfl) (part_leaf eu3 ea3 rfl) (equalIn_int eu3) .nil
theorem itm_eq {op : BinOp} {a b : Itm} {k : Bool → Prop} (h : k (decide (a = b))) : rawB Try.prog op 25 (.agg ⟨[.int .i64 a.k, .int .i64 a.v]⟩) (.agg ⟨[.int .i64 b.k, .int .i64 b.v]⟩) k := by
  refine eqT25 ?_
  have e : ([a.k == b.k, a.v == b.v].all id) = decide (a = b) := by
    cases a; cases b
    simp [Itm.mk.injEq]
    rw [Bool.eq_iff_iff]
    simp
  rw [e]; exact h
section
variable {H : Heap} {p q : Option Addr} {n m c c' : Nat} {xs ys : List Itm}
theorem eq_loop (hx : RowsAt Itm.cells 2 H p xs) (hy : RowsAt Itm.cells 2 H q ys) (h1 : xs.length = n) (h2 : ys.length = n) (hn : n < 2 ^ 40) {R : Ending → Heap → Prop} (K : R (.returned (.bool (decide (xs = ys)))) H) :
    ∀ (m i : Nat), i + m = n → xs.take i = ys.take i → F8.L0 p n c q n c' (n : Int) (i : Int) H R := by
  have RX : RowsC H p Itm.cells 2 xs := ⟨hx⟩
  have RY : RowsC H q Itm.cells 2 ys := ⟨hy⟩
  have S := Sat.start H
  intro m
  induction m with
  | zero =>
    intro i hi ht
    refine F8.L0_step ?_
    unfold F8.L0n
    refine iteB_f (by simp; omega) ?_
    have e : xs = ys := by
      rw [List.take_of_length_le (by omega), List.take_of_length_le (by omega)] at ht
      exact ht
    rw [decide_eq_true e] at K
    exact K
  | succ m ih =>
    intro i hi ht
    obtain ⟨x, hx1⟩ : ∃ x, xs[i]? = some x := get_of (by omega)
    obtain ⟨y, hy1⟩ : ∃ y, ys[i]? = some y := get_of (by omega)
    have hI : HasI xs (i : Int) x := .nat hx1
    have hJ : HasI ys (i : Int) y := .nat hy1
    refine F8.L0_step ?_
    unfold F8.L0n
    rw [wadd (by omega)]
    refine iteB_t (by simp; omega) ?_
    refine RX.idx h1 ⟨by omega, by omega, fun a ha => ?_⟩
    subst ha
    refine RY.idx h2 ⟨by omega, by omega, fun a ha => ?_⟩
    subst ha
    (repeat (first | (refine Step.go ?_; intros) | refine iteB_t (by decide) ?_ | refine iteB_f (by decide) ?_ | (refine Duo.mk (by first | omega | exact rfl | decide) ?_; intros) | (refine Duo.mk (Clo.mk (by kernel_rfl)) ?_; intros)))
    refine itm_eq (a := x) (b := y) ?_
    by_cases h : x = y
    · rw [decide_eq_true h]
      refine iteB_f rfl ?_
      exact ih (i + 1) (by omega) (by rw [take_snoc hx1, take_snoc hy1, ht, h])
    · rw [decide_eq_false h]
      refine iteB_t rfl ?_
      have e : xs ≠ ys := fun e => by rw [e, hy1] at hx1; exact h (Option.some.inj hx1).symm
      rw [decide_eq_false e] at K
      exact K
theorem eq_ok (hx : RowsAt Itm.cells 2 H p xs) (hy : RowsAt Itm.cells 2 H q ys) (h1 : xs.length = n) (h2 : ys.length = m) (hn : n < 2 ^ 40) : CallsH Try.prog 8 ⟨[.slice p n c, .slice q m c']⟩ H (Gives (.bool (decide (xs = ys))) H) := by
  refine F8.calls ?_
  unfold F8.go
  by_cases h : n = m
  · subst h
    refine iteB_f (by simp) ?_
    rw [show (0 : Int) = ((0 : Nat) : Int) from rfl]
    exact eq_loop hx hy h1 h2 hn ⟨rfl, .refl _⟩ n 0 (by omega) rfl
  · refine iteB_t (by simp; omega) ?_
    have e : xs ≠ ys := fun e => by rw [e] at h1; omega
    rw [decide_eq_false e]
    exact ⟨rfl, .refl _⟩
/-- Answers in a heap. -/
structure AnsAt (H : Heap) (p : Option Addr) (ys : List Ans) : Prop where
  rows : RowsAt ansC 6 H p ys
  lists : ∀ a ∈ ys, RowsAt Itm.cells 2 H a.p a.L ∧ a.L.length = a.m
theorem ansAt_of {l : List HP} {n c : Nat} {ys : List Ans} (S : Sat H l) (h1 : sA p n c ys ∈ l) (h2 : star (ys.map aP) ∈ l) : AnsAt H p ys := by
  refine ⟨S.rowsAt h1, fun a ha => ?_⟩
  obtain ⟨A, B, e⟩ := List.append_of_mem ha
  have S2 : Sat H [star (ys.map aP)] := by
    obtain ⟨h, a1, a2⟩ := S.mem h2
    exact ⟨h, a1, a2, trivial⟩
  have S3 := S2.to (kid_out' e)
  exact ⟨Sat.rowsAt (f := Itm.cells) (E := 25) (z := 2) (n := a.m) (k := a.c) (l := aP a :: _) S3 (.head _), (Sat.slLen (f := Itm.cells) (E := 25) (z := 2) (p := a.p) (c := a.c) (l := aP a :: _) S3 (.head _)).1⟩
theorem AnsAt.ext {H1 : Heap} {ys : List Ans} (h : AnsAt H p ys) (x : ExtH H H1) : AnsAt H1 p ys := ⟨h.rows.ext x, fun a ha => ⟨(h.lists a ha).1.ext x, (h.lists a ha).2⟩⟩
end
end Go.Proofs.Ytdgcdjlomindhaa

set_option linter.unusedVariables false
set_option linter.unusedSimpArgs false
set_option linter.unnecessarySimpa false
namespace Go.Proofs.Ytdgcdjlomindhaa
open Go Go.Den Go.Proofs
/-! The law's own helpers. -/
section
variable {H : Heap} {p q : Option Addr} {n m c c' : Nat} {l : List HP}
theorem same_ok {a b : Ans} (ha : RowsAt Itm.cells 2 H a.p a.L ∧ a.L.length = a.m) (hb : RowsAt Itm.cells 2 H b.p b.L ∧ b.L.length = b.m) (hn : a.m < 2 ^ 40) :
    CallsH Try.prog 19 ⟨[.agg ⟨a.cells⟩, .agg ⟨b.cells⟩]⟩ H (Gives (.bool (decide (a.abs = b.abs))) H) := by
  have S := Sat.start H
  refine F19.calls ?_
  unfold F19.go
  (repeat (first | (refine Step.go ?_; intros) | refine iteB_t (by decide) ?_ | refine iteB_f (by decide) ?_ | (refine Duo.mk (by first | omega | exact rfl | decide) ?_; intros) | (refine Duo.mk (Clo.mk (by kernel_rfl)) ?_; intros)))
  rename_i S2
  have hx : ExtH H _ := S2.old (by simp)
  refine iteB_i (fun h1 => ?_) (fun h1 => ?_)
  · have h1 : a.ok = b.ok := by simpa using h1
    (repeat (first | (refine Step.go ?_; intros) | refine iteB_t (by decide) ?_ | refine iteB_f (by decide) ?_ | (refine Duo.mk (by first | omega | exact rfl | decide) ?_; intros) | (refine Duo.mk (Clo.mk (by kernel_rfl)) ?_; intros)))
    refine iteB_i (fun h2 => ?_) (fun h2 => ?_)
    · have h2 : a.n = b.n := by simpa using h2
      (repeat (first | (refine Step.go ?_; intros) | refine iteB_t (by decide) ?_ | refine iteB_f (by decide) ?_ | (refine Duo.mk (by first | omega | exact rfl | decide) ?_; intros) | (refine Duo.mk (Clo.mk (by kernel_rfl)) ?_; intros)))
      refine itm_eq (a := a.e) (b := b.e) ?_
      refine iteB_i (fun h3 => ?_) (fun h3 => ?_)
      · have h3 : a.e = b.e := of_decide_eq_true h3
        (repeat (first | (refine Step.go ?_; intros) | refine iteB_t (by decide) ?_ | refine iteB_f (by decide) ?_ | (refine Duo.mk (by first | omega | exact rfl | decide) ?_; intros) | (refine Duo.mk (Clo.mk (by kernel_rfl)) ?_; intros)))
        refine gives_i S2 (eq_ok (ha.1.ext hx) (hb.1.ext hx) ha.2 hb.2 hn) ?_
        intro H3 hx3 S3
        (repeat (first | (refine Step.go ?_; intros) | refine iteB_t (by decide) ?_ | refine iteB_f (by decide) ?_ | (refine Duo.mk (by first | omega | exact rfl | decide) ?_; intros) | (refine Duo.mk (Clo.mk (by kernel_rfl)) ?_; intros)))
        have e : decide (a.abs = b.abs) = decide (a.L = b.L) := by
          unfold Ans.abs
          rw [h1, h2, h3]
          simp
        rw [e]
        exact ⟨rfl, hx.trans hx3⟩
      · have h3 : ¬ a.e = b.e := of_decide_eq_false h3
        rw [decide_eq_false (fun e => h3 (by have := congrArg (fun (x : AA) => x.2.2.1) e; exact this))]
        exact ⟨rfl, hx⟩
    · have h2 : ¬ a.n = b.n := by simpa using h2
      rw [decide_eq_false (fun e => h2 (by have := congrArg (fun (x : AA) => x.2.1) e; exact this))]
      exact ⟨rfl, hx⟩
  · have h1 : ¬ a.ok = b.ok := by simpa using h1
    rw [decide_eq_false (fun e => h1 (by have := congrArg (fun (x : AA) => x.1) e; exact this))]
    exact ⟨rfl, hx⟩
theorem all_loop {xs ys : List Ans} (h1 : xs.length = n) (h2 : ys.length = n) (hn : n < 2 ^ 40) (hm : ∀ a ∈ xs, a.m < 2 ^ 40) {H0 : Heap} : ∀ (m i : Nat) (H : Heap), ExtH H0 H → AnsAt H p xs → AnsAt H q ys → i + m = n → (xs.map Ans.abs).take i = (ys.map Ans.abs).take i → F11.L0 p n c q n c' (n : Int) (i : Int) H (Gives (.bool (decide (xs.map Ans.abs = ys.map Ans.abs))) H0) := by
  intro m
  induction m with
  | zero =>
    intro i H hx ha hb hi ht
    refine F11.L0_step ?_
    unfold F11.L0n
    refine iteB_f (by simp; omega) ?_
    rw [List.take_of_length_le (by simp; omega), List.take_of_length_le (by simp; omega)] at ht
    rw [decide_eq_true ht]
    exact ⟨rfl, hx⟩
  | succ m ih =>
    intro i H hx ha hb hi ht
    have RX : RowsC H p ansC 6 xs := ⟨ha.rows⟩
    have RY : RowsC H q ansC 6 ys := ⟨hb.rows⟩
    have S := Sat.start H
    obtain ⟨x, hx1⟩ : ∃ x, xs[i]? = some x := get_of (by omega)
    obtain ⟨y, hy1⟩ : ∃ y, ys[i]? = some y := get_of (by omega)
    have hI : HasI xs (i : Int) x := .nat hx1
    have hJ : HasI ys (i : Int) y := .nat hy1
    refine F11.L0_step ?_
    unfold F11.L0n
    rw [wadd (by omega)]
    refine iteB_t (by simp; omega) ?_
    refine RX.idx h1 ⟨by omega, by omega, fun a ha => ?_⟩
    subst ha
    refine RY.idx h2 ⟨by omega, by omega, fun a ha => ?_⟩
    subst ha
    (repeat (first | (refine Step.go ?_; intros) | refine iteB_t (by decide) ?_ | refine iteB_f (by decide) ?_ | (refine Duo.mk (by first | omega | exact rfl | decide) ?_; intros) | (refine Duo.mk (Clo.mk (by kernel_rfl)) ?_; intros)))
    refine gives_i S (same_ok (a := x) (b := y) (ha.lists x (List.mem_of_getElem? hx1)) (hb.lists y (List.mem_of_getElem? hy1)) (hm x (List.mem_of_getElem? hx1))) ?_
    intro H1 hx2 S1
    (repeat (first | (refine Step.go ?_; intros) | refine iteB_t (by decide) ?_ | refine iteB_f (by decide) ?_ | (refine Duo.mk (by first | omega | exact rfl | decide) ?_; intros) | (refine Duo.mk (Clo.mk (by kernel_rfl)) ?_; intros)))
    refine iteB_i (fun h3 => ?_) (fun h3 => ?_)
    · have h3 : ¬ x.abs = y.abs := by simpa using h3
      have e : xs.map Ans.abs ≠ ys.map Ans.abs := fun e => by
        have e1 : (xs.map Ans.abs)[i]? = some x.abs := by simp [hx1]
        rw [e] at e1
        simp [hy1] at e1
        exact h3 e1.symm
      rw [decide_eq_false e]
      exact ⟨rfl, hx.trans hx2⟩
    · have h3 : x.abs = y.abs := by simpa using h3
      refine ih (i + 1) H1 (hx.trans hx2) (ha.ext hx2) (hb.ext hx2) (by omega) ?_
      rw [take_snoc (x := x.abs) (by simp [hx1]), take_snoc (x := y.abs) (by simp [hy1]), ht, h3]
theorem all_ok {xs ys : List Ans} (ha : AnsAt H p xs) (hb : AnsAt H q ys) (h1 : xs.length = n) (h2 : ys.length = m) (hn : n < 2 ^ 40) (hm : ∀ a ∈ xs, a.m < 2 ^ 40) : CallsH Try.prog 11 ⟨[.slice p n c, .slice q m c']⟩ H (Gives (.bool (decide (xs.map Ans.abs = ys.map Ans.abs))) H) := by
  refine F11.calls ?_
  unfold F11.go
  by_cases h : n = m
  · subst h
    refine iteB_f (by simp) ?_
    rw [show (0 : Int) = ((0 : Nat) : Int) from rfl]
    exact all_loop h1 h2 hn hm n 0 H (.refl _) ha hb (by omega) rfl
  · refine iteB_t (by simp; omega) ?_
    have e : xs.map Ans.abs ≠ ys.map Ans.abs := fun e => by have := congrArg List.length e; simp at this; omega
    rw [decide_eq_false e]
    exact ⟨rfl, .refl _⟩
def putOp (e : Itm) : Op := ⟨1, 0, e, 0, 0, 0, false⟩
abbrev sO (p : Option Addr) (n c : Nat) (xs : List Op) : HP := sl Op.cells 30 8 p n c xs
theorem put_loop {H0 : Heap} {xs : List Itm} (hR : RowsAt Itm.cells 2 H0 p xs) (hn1 : xs.length = n) (hn : n < 2 ^ 36) {R : Ending → Heap → Prop} (K : ∀ r k H1, Sat H1 [sO r n k (xs.map putOp), old H0] → R (.returned (.slice r n k)) H1) :
    ∀ (m i : Nat) (r : Option Addr) (k : Nat) (H : Heap), i + m = n → Sat H [sO r i k ((xs.take i).map putOp), old H0] → F17.L0 r i k p n c (n : Int) (i : Int) H R := by
  have RC : RowsC H0 p Itm.cells 2 xs := ⟨hR⟩
  intro m
  induction m with
  | zero =>
    intro i r k H hi S
    have hi : i = n := by omega
    subst hi
    refine F17.L0_step ?_
    unfold F17.L0n
    refine iteB_f (by simp) ?_
    rw [List.take_of_length_le (by omega)] at S
    exact K r k H S
  | succ m ih =>
    intro i r k H hi S
    obtain ⟨x, hx1⟩ : ∃ x, xs[i]? = some x := get_of (by omega)
    have hI : HasI xs (i : Int) x := .nat hx1
    refine F17.L0_step ?_
    unfold F17.L0n
    rw [wadd (by omega)]
    refine iteB_t (by simp; omega) ?_
    refine RC.idx hn1 ⟨by omega, by omega, fun a ha => ?_⟩
    subst ha
    (repeat (first | (refine Step.go ?_; intros) | refine iteB_t (by decide) ?_ | refine iteB_f (by decide) ?_ | (refine Duo.mk (by first | omega | exact rfl | decide) ?_; intros) | (refine Duo.mk (Clo.mk (by kernel_rfl)) ?_; intros)))
    rename_i r' k' H5 S5
    have e : (xs.take i).map putOp ++ [(⟨1, 0, ⟨x.k, x.v⟩, 0, 0, 0, false⟩ : Op)] = (xs.take (i + 1)).map putOp := by rw [take_snoc hx1]; simp [putOp]
    rw [e] at S5
    exact ih (i + 1) r' k' H5 (by omega) Sat.fin
theorem puts_ok {xs : List Itm} (hR : RowsAt Itm.cells 2 H p xs) (hn1 : xs.length = n) (hn : n < 2 ^ 36) : CallsH Try.prog 17 ⟨[.slice p n c]⟩ H (fun e H1 => ∃ x : Option Addr × Nat, e = .returned (.slice x.1 n x.2) ∧ True ∧ Sat H1 ([sO x.1 n x.2 (xs.map putOp)] ++ [old H])) := by
  refine F17.calls ?_
  unfold F17.go
  have S := (Sat.start H).to (Ent.slNil (f := Op.cells) (E := 30) (z := 8) .refl)
  rw [show (0 : Int) = ((0 : Nat) : Int) from rfl]
  refine put_loop hR hn1 hn ?_ n 0 none 0 H (by omega) S
  intro r k H1 S1
  exact ⟨(r, k), rfl, trivial, S1⟩
end
end Go.Proofs.Ytdgcdjlomindhaa

set_option linter.unusedVariables false
set_option linter.unusedSimpArgs false
set_option linter.unnecessarySimpa false
namespace Go.Proofs.Ytdgcdjlomindhaa
open Go Go.Den Go.Proofs
/-! The law's own helpers: keys apart, copies, turned round, found. -/
instance : MapT Try.prog 59 (Value.int .i64) Value.bool (.bool false) := ⟨3, 4, by kernel_rfl, KeyT.int (by kernel_rfl), by kernel_rfl⟩
theorem mget_keys {xs : List Itm} {k : Int} : mget (xs.map fun x => (x.k, true)) k = if k ∈ xs.map (·.k) then some true else none := by
  induction xs with
  | nil => rfl
  | cons x xs ih =>
    rw [List.map_cons, mget, ih]
    by_cases h : k = x.k
    · rw [if_pos h, if_pos (by simp [h])]
    · rw [if_neg h]
      by_cases h2 : k ∈ xs.map (·.k)
      · rw [if_pos h2, if_pos (by rw [List.map_cons]; exact List.mem_cons_of_mem _ h2)]
      · rw [if_neg h2, if_neg (by rw [List.map_cons, List.mem_cons]; exact fun h3 => h3.elim h h2)]
section
variable {H : Heap} {p q : Option Addr} {n m c c' : Nat} {l : List HP}
theorem apart_loop {H0 : Heap} {xs : List Itm} {r : Nat} (hR : RowsAt Itm.cells 2 H0 p xs) (hn1 : xs.length = n) (hn : n < 2 ^ 36) :
    ∀ (m i : Nat) (H : Heap), i + m = n → ((xs.take i).map (·.k)).Nodup → Sat H [mp (Value.int .i64) Value.bool r ((xs.take i).map fun x => (x.k, true)), old H0] → F13.L0 r p n c (n : Int) (i : Int) H (Gives (.bool (decide (xs.map (·.k)).Nodup)) H0) := by
  have RC : RowsC H0 p Itm.cells 2 xs := ⟨hR⟩
  intro m
  induction m with
  | zero =>
    intro i H hi hd S
    refine F13.L0_step ?_
    unfold F13.L0n
    refine iteB_f (by simp; omega) ?_
    rw [List.take_of_length_le (by omega)] at hd
    rw [decide_eq_true hd]
    exact ⟨rfl, Sat.grown⟩
  | succ m ih =>
    intro i H hi hd S
    obtain ⟨x, hx1⟩ : ∃ x, xs[i]? = some x := get_of (by omega)
    have hI : HasI xs (i : Int) x := .nat hx1
    refine F13.L0_step ?_
    unfold F13.L0n
    rw [wadd (by omega)]
    refine iteB_t (by simp; omega) ?_
    refine RC.idx hn1 ⟨by omega, by omega, fun a ha => ?_⟩
    subst ha
    (repeat (first | (refine Step.go ?_; intros) | refine iteB_t (by decide) ?_ | refine iteB_f (by decide) ?_ | (refine Duo.mk (by first | omega | exact rfl | decide) ?_; intros) | (refine Duo.mk (Clo.mk (by kernel_rfl)) ?_; intros)))
    have Sa := ‹Sat _ _›
    refine Duo.mk ?_ ?_
    · intro v hv
      rw [mget_keys] at hv
      split at hv
      · rename_i hmem
        cases hv
        (repeat (first | (refine Step.go ?_; intros) | refine iteB_t (by decide) ?_ | refine iteB_f (by decide) ?_ | (refine Duo.mk (by first | omega | exact rfl | decide) ?_; intros) | (refine Duo.mk (Clo.mk (by kernel_rfl)) ?_; intros)))
        have : ¬ (xs.map (·.k)).Nodup := by
          intro hnd
          have e : xs.map (·.k) = (xs.take i).map (·.k) ++ x.k :: (xs.drop (i + 1)).map (·.k) := by
            obtain ⟨y, e1, e2, _⟩ := cut_at' (l := xs) (i := i) (by omega)
            rw [hx1] at e2; cases e2
            conv => lhs; rw [e1]
            simp
          rw [e, List.nodup_append] at hnd
          exact hnd.2.2 _ hmem _ (List.mem_cons_self ..) rfl
        rw [decide_eq_false this]
        exact ⟨rfl, Sat.grown⟩
      · cases hv
    · intro hv
      have hnm : x.k ∉ (xs.take i).map (·.k) := by
        intro hmem
        rw [mget_keys, if_pos hmem] at hv
        cases hv
      (repeat (first | (refine Step.go ?_; intros) | refine iteB_t (by decide) ?_ | refine iteB_f (by decide) ?_ | (refine Duo.mk (by first | omega | exact rfl | decide) ?_; intros) | (refine Duo.mk (Clo.mk (by kernel_rfl)) ?_; intros)))
      rename_i H5 S5
      have e1 : mset ((xs.take i).map fun x => (x.k, true)) x.k true = (xs.take (i + 1)).map fun x => (x.k, true) := by
        rw [mset_none hv, take_snoc hx1]; simp
      rw [e1] at S5
      refine ih (i + 1) H5 (by omega) ?_ Sat.fin
      rw [take_snoc hx1, List.map_append, List.nodup_append]
      refine ⟨hd, by simp, ?_⟩
      intro a ha b hb e
      simp at hb
      subst hb
      subst e
      exact hnm ha
theorem apart_ok {xs : List Itm} (hR : RowsAt Itm.cells 2 H p xs) (hn1 : xs.length = n) (hn : n < 2 ^ 36) : CallsH Try.prog 13 ⟨[.slice p n c]⟩ H (Gives (.bool (decide (xs.map (·.k)).Nodup)) H) := by
  refine F13.calls ?_
  unfold F13.go
  have S := Sat.start H
  (repeat (first | (refine Step.go ?_; intros) | refine iteB_t (by decide) ?_ | refine iteB_f (by decide) ?_ | (refine Duo.mk (by first | omega | exact rfl | decide) ?_; intros) | (refine Duo.mk (Clo.mk (by kernel_rfl)) ?_; intros)))
  rename_i S1
  have S2 := S1.mpNew (Value.int .i64) Value.bool
  rw [show (0 : Int) = ((0 : Nat) : Int) from rfl]
  exact apart_loop hR hn1 hn n 0 _ (by omega) (by simp) S2
theorem clone_ok {xs : List Itm} (hR : RowsAt Itm.cells 2 H p xs) (hn1 : xs.length = n) (hn : n < 2 ^ 36) : CallsH Try.prog 14 ⟨[.slice p n c]⟩ H (fun e H1 => ∃ x : Option Addr × Nat, e = .returned (.slice x.1 n x.2) ∧ True ∧ Sat H1 ([sI x.1 n x.2 xs] ++ [old H])) := by
  refine F14.calls ?_
  unfold F14.go
  have S := Sat.start H
  cases p with
  | none =>
    refine iteB_t (by rfl) ?_
    have h0 : xs = [] := by
      rcases hR with h | ⟨a, h, _⟩
      · exact h
      · cases h
    subst h0
    subst hn1
    exact ⟨(none, 0), rfl, trivial, S.to (.slNil .refl)⟩
  | some a =>
    refine iteB_f (by rfl) ?_
    (repeat (first | (refine Step.go ?_; intros) | refine iteB_t (by decide) ?_ | refine iteB_f (by decide) ?_ | (refine Duo.mk (by first | omega | exact rfl | decide) ?_; intros) | (refine Duo.mk (Clo.mk (by kernel_rfl)) ?_; intros)))
    rename_i r H1 S1
    have S2 : Sat H1 (sI (some ⟨r, 0, none⟩) 0 0 [] :: [old H]) := S1.to (Ent.slClose (f := Itm.cells) (xs := []) (pre := []) (sp := []) (z := 2) rfl (by simp) (by omega) rfl (by simp))
    have hx : ExtH H H1 := S1.old (by simp)
    refine S2.slApp (ys := xs) ((hR.ext hx).cells (fun y => rfl)) hn1 (fun y _ => rfl) itm_isC rfl (by decide) (by omega) ?_
    intro p' c' H2 S3
    rw [List.nil_append] at S3
    have e : 0 + n = n := Nat.zero_add n
    rw [e] at S3
    refine ⟨(p', c'), by rw [e], trivial, S3⟩
theorem rev_loop {xs : List Itm} {R : Ending → Heap → Prop} (hn : n < 2 ^ 36) : ∀ (m i : Nat) (ys : List Itm) (H : Heap), i + i + m = n → ys.length = n → (∀ j, i ≤ j → j < n - i → ys[j]? = xs[j]?) → (∀ j, j < i → ys[j]? = xs[n - 1 - j]?) → (∀ j, n - i ≤ j → j < n → ys[j]? = xs[n - 1 - j]?) → xs.length = n →
      Sat H (sI p n c ys :: l) → (∀ H1, Sat H1 (sI p n c xs.reverse :: l) → R (.returned (.tuple ⟨[]⟩)) H1) → F15.L0 p n c (i : Int) ((n : Int) - 1 - i) H R := by
  intro m
  induction m using Nat.strongRecOn with
  | ind m ih =>
    intro i ys H hi hy h1 h2 h3 hx S K
    refine F15.L0_step ?_
    unfold F15.L0n
    by_cases hm : m ≤ 1
    · refine iteB_f (by simp; omega) ?_
      have e : ys = xs.reverse := by
        refine List.ext_getElem? fun j => ?_
        rcases Nat.lt_or_ge j n with hj | hj
        · rw [List.getElem?_reverse (by omega), hx]
          rcases Nat.lt_or_ge j i with h | h
          · exact h2 j h
          · rcases Nat.lt_or_ge j (n - i) with h4 | h4
            · rw [h1 j h h4]
              congr 1; omega
            · exact h3 j h4 hj
        · rw [List.getElem?_eq_none (by omega), List.getElem?_eq_none (by simp; omega)]
      rw [e] at S
      exact K H S
    · refine iteB_t (by simp; omega) ?_
      have ej : (n : Int) - 1 - i = ((n - 1 - i : Nat) : Int) := by omega
      rw [ej, wadd (by omega)]
      have ej2 : IntKind.wrap .i64 (((n - 1 - i : Nat) : Int) - 1) = (n : Int) - 1 - ((i + 1 : Nat) : Int) := by rw [wr (by omega) (by omega)]; omega
      rw [ej2]
      obtain ⟨a, ha⟩ : ∃ a, ys[i]? = some a := get_of (by omega)
      obtain ⟨b, hb⟩ : ∃ b, ys[n - 1 - i]? = some b := get_of (by omega)
      have hI : HasI ys (i : Int) a := .nat ha
      have hJ : HasI ys ((n - 1 - i : Nat) : Int) b := .nat hb
      refine Sat.idx (f := Itm.cells) (E := 25) (z := 2) S ⟨by omega, by omega, fun r o hr => ?_⟩
      subst hr
      (repeat (first | (refine Step.go ?_; intros) | refine iteB_t (by decide) ?_ | refine iteB_f (by decide) ?_ | (refine Duo.mk (by first | omega | exact rfl | decide) ?_; intros) | (refine Duo.mk (Clo.mk (by kernel_rfl)) ?_; intros)))
      rename_i S1
      have hI2 : HasI (ys.set (Int.toNat (i : Int)) ⟨b.k, a.v⟩) (i : Int) ⟨b.k, a.v⟩ := ⟨by simp; rw [List.getElem?_set_self (by omega)]⟩
      (repeat (first | (refine Step.go ?_; intros) | refine iteB_t (by decide) ?_ | refine iteB_f (by decide) ?_ | (refine Duo.mk (by first | omega | exact rfl | decide) ?_; intros) | (refine Duo.mk (Clo.mk (by kernel_rfl)) ?_; intros)))
      rename_i S2
      simp only [List.set_set, Int.toNat_natCast] at S2
      have hJ2 : HasI (ys.set i ⟨b.k, b.v⟩) ((n - 1 - i : Nat) : Int) b := .nat (by rw [List.getElem?_set_ne (by omega)]; exact hb)
      clear S1 hI hJ hI2
      (repeat (first | (refine Step.go ?_; intros) | refine iteB_t (by decide) ?_ | refine iteB_f (by decide) ?_ | (refine Duo.mk (by first | omega | exact rfl | decide) ?_; intros) | (refine Duo.mk (Clo.mk (by kernel_rfl)) ?_; intros)))
      rename_i S3
      have hJ3 : HasI ((ys.set i ⟨b.k, b.v⟩).set (Int.toNat ((n - 1 - i : Nat) : Int)) ⟨a.k, b.v⟩) ((n - 1 - i : Nat) : Int) ⟨a.k, b.v⟩ := ⟨by simp only [Int.toNat_natCast]; rw [List.getElem?_set_self (by simp; omega)]⟩
      (repeat (first | (refine Step.go ?_; intros) | refine iteB_t (by decide) ?_ | refine iteB_f (by decide) ?_ | (refine Duo.mk (by first | omega | exact rfl | decide) ?_; intros) | (refine Duo.mk (Clo.mk (by kernel_rfl)) ?_; intros)))
      rename_i S4
      simp only [List.set_set, Int.toNat_natCast] at S4
      refine ih (m - 2) (by omega) (i + 1) ((ys.set i b).set (n - 1 - i) a) _ (by omega) (by simp [hy]) ?_ ?_ ?_ hx S4 K
      · intro j hj1 hj2
        rw [List.getElem?_set_ne (by omega), List.getElem?_set_ne (by omega)]
        exact h1 j (by omega) (by omega)
      · intro j hj
        rw [List.getElem?_set_ne (by omega)]
        by_cases e : j = i
        · subst e
          rw [List.getElem?_set_self (by omega), ← hb]
          exact h1 (n - 1 - j) (by omega) (by omega)
        · rw [List.getElem?_set_ne (by omega)]
          exact h2 j (by omega)
      · intro j hj1 hj2
        by_cases e : j = n - 1 - i
        · subst e
          rw [List.getElem?_set_self (by simp; omega), ← ha]
          rw [show n - 1 - (n - 1 - i) = i by omega]
          exact h1 i (by omega) (by omega)
        · rw [List.getElem?_set_ne (by omega), List.getElem?_set_ne (by omega)]
          exact h3 j (by omega) (by omega)
theorem rev_ok {xs : List Itm} (hn : n < 2 ^ 36) (S : Sat H (sI p n c xs :: l)) : CallsH Try.prog 15 ⟨[.slice p n c]⟩ H (fun e H1 => e = .returned (.tuple ⟨[]⟩) ∧ Sat H1 (sI p n c xs.reverse :: l)) := by
  have hx := (Sat.slLen S (.head _)).1
  refine F15.calls ?_
  unfold F15.go
  rw [wr (by omega) (by omega), show (0 : Int) = ((0 : Nat) : Int) from rfl]
  have e : (n : Int) - 1 = (n : Int) - 1 - ((0 : Nat) : Int) := by omega
  rw [e]
  exact rev_loop hn n 0 xs H (by omega) hx (fun j _ _ => rfl) (fun j hj => by omega) (fun j h1 h2 => by omega) hx S (fun H1 S1 => ⟨rfl, S1⟩)
theorem idx_loop {H0 : Heap} {xs : List Itm} {e : Itm} {r : Nat} (hR : RowsAt Itm.cells 2 H0 p xs) (hn1 : xs.length = n) (hn : n < 2 ^ 36) : ∀ (m i : Nat) (H : Heap), i + m = n → e ∉ xs.take i → Sat H [pt r (.cells ⟨e.cells⟩ 25), old H0] →
    F24.L0 p n c r (n : Int) (i : Int) H (fun en H1 => ExtH H0 H1 ∧ ∃ k : Int, en = .returned (.int .i64 k) ∧ (e ∈ xs ↔ 0 ≤ k)) := by
  have RC : RowsC H0 p Itm.cells 2 xs := ⟨hR⟩
  intro m
  induction m with
  | zero =>
    intro i H hi hd S
    refine F24.L0_step ?_
    unfold F24.L0n
    refine iteB_f (by simp; omega) ?_
    rw [List.take_of_length_le (by omega)] at hd
    exact ⟨Sat.grown, -1, rfl, ⟨fun h => absurd h hd, fun h => by omega⟩⟩
  | succ m ih =>
    intro i H hi hd S
    obtain ⟨x, hx1⟩ : ∃ x, xs[i]? = some x := get_of (by omega)
    have hI : HasI xs (i : Int) x := .nat hx1
    refine F24.L0_step ?_
    unfold F24.L0n
    rw [wadd (by omega)]
    refine iteB_t (by simp; omega) ?_
    refine RC.idx hn1 ⟨by omega, by omega, fun a ha => ?_⟩
    subst ha
    (repeat (first | (refine Step.go ?_; intros) | refine iteB_t (by decide) ?_ | refine iteB_f (by decide) ?_ | (refine Duo.mk (by first | omega | exact rfl | decide) ?_; intros) | (refine Duo.mk (Clo.mk (by kernel_rfl)) ?_; intros)))
    refine itm_eq (a := e) (b := x) ?_
    refine iteB_i (fun h => ?_) (fun h => ?_)
    · have h : e = x := of_decide_eq_true h
      exact ⟨Sat.grown, i, rfl, ⟨fun _ => by omega, fun _ => by rw [h]; exact List.mem_of_getElem? hx1⟩⟩
    · have h : ¬ e = x := of_decide_eq_false h
      refine ih (i + 1) H (by omega) ?_ S
      rw [take_snoc hx1, List.mem_append]
      exact fun h2 => h2.elim hd (fun h3 => h (by simpa using h3))
theorem has_ok {xs : List Itm} {e : Itm} (hR : RowsAt Itm.cells 2 H p xs) (hn1 : xs.length = n) (hn : n < 2 ^ 36) : CallsH Try.prog 16 ⟨[.slice p n c, .agg ⟨e.cells⟩]⟩ H (Gives (.bool (decide (e ∈ xs))) H) := by
  have S := Sat.start H
  refine F16.calls ?_
  unfold F16.go
  (repeat (first | (refine Step.go ?_; intros) | refine iteB_t (by decide) ?_ | refine iteB_f (by decide) ?_ | (refine Duo.mk (by first | omega | exact rfl | decide) ?_; intros) | (refine Duo.mk (Clo.mk (by kernel_rfl)) ?_; intros)))
  rename_i H1 S1
  have hx : ExtH H H1 := S1.old (by simp)
  refine call_of (F24.calls (R := fun en H2 => ExtH H H2 ∧ ∃ k : Int, en = .returned (.int .i64 k) ∧ (e ∈ xs ↔ 0 ≤ k)) ?_) ?_
  · unfold F24.go
    (repeat (first | (refine Step.go ?_; intros) | refine iteB_t (by decide) ?_ | refine iteB_f (by decide) ?_ | (refine Duo.mk (by first | omega | exact rfl | decide) ?_; intros) | (refine Duo.mk (Clo.mk (by kernel_rfl)) ?_; intros)))
    rename_i r H2 S2
    rw [show (0 : Int) = ((0 : Nat) : Int) from rfl]
    exact idx_loop hR hn1 hn n 0 H2 (by omega) (by simp) Sat.fin
  · rintro en H2 ⟨hx2, k, rfl, hk⟩
    (repeat (first | (refine Step.go ?_; intros) | refine iteB_t (by decide) ?_ | refine iteB_f (by decide) ?_ | (refine Duo.mk (by first | omega | exact rfl | decide) ?_; intros) | (refine Duo.mk (Clo.mk (by kernel_rfl)) ?_; intros)))
    refine ⟨?_, hx2⟩
    congr 2
    exact (decide_eq_decide.2 hk.symm)
end
end Go.Proofs.Ytdgcdjlomindhaa

set_option linter.unusedVariables false
set_option linter.unusedSimpArgs false
set_option linter.unnecessarySimpa false
namespace Go.Proofs.Ytdgcdjlomindhaa
open Go Go.Den Go.Proofs
/-! What comes behind elements that were put in; a tree lives. -/
theorem op_isC {xs : List Op} : ∀ v ∈ xs.flatMap Op.cells, isCell v = true := by
  intro v hv
  obtain ⟨y, _, hy⟩ := List.mem_flatMap.1 hv
  simp at hy
  rcases hy with rfl | rfl | rfl | rfl | rfl | rfl | rfl | rfl <;> rfl
theorem len_cons {α : Type} {l : List α} {n : Nat} (h : l.length = n + 1) : ∃ a t, l = a :: t ∧ t.length = n := by
  cases l with
  | nil => simp at h
  | cons a t => exact ⟨a, t, rfl, by simpa using h⟩
theorem len_nil {α : Type} {l : List α} (h : l.length = 0) : l = [] := List.eq_nil_of_length_eq_zero h
theorem good_put (e : Itm) : Good (putOp e) ∧ (putOp e).tree = 0 ∧ (putOp e).kind ≠ 18 := ⟨good1 (k := e.k) (v := e.v), rfl, by show (1 : Int) ≠ 18; decide⟩
section
variable {H : Heap} {p q : Option Addr} {n m c c' d : Nat} {l : List HP}
theorem tail_ok {xs : List Itm} {ops : List Op} (hR : RowsAt Itm.cells 2 H p xs) (hQ : RowsAt Op.cells 8 H q ops) (hn1 : xs.length = n) (hm1 : ops.length = m) (hn : n < 2 ^ 30) (hm : m < 2 ^ 30) (hd1 : 2 ≤ d) (hd2 : d ≤ 64) (hg : ∀ o ∈ ops, Good o ∧ o.tree = 0 ∧ o.kind ≠ 18) :
    CallsH Try.prog 7 ⟨[.int .i64 (d : Int), .slice p n c, .slice q m c']⟩ H (fun en H1 => ∃ x : Option Addr × Nat × List Ans, en = .returned (.tuple ⟨[.slice x.1 m x.2.1, .bool true]⟩) ∧ x.2.2.map Ans.abs = runA (runL [] (xs.map putOp)) ops ∧ Sat H1 ([sA x.1 m x.2.1 x.2.2, star (x.2.2.map aP)] ++ [old H])) := by
  refine F7.calls ?_
  unfold F7.go
  refine grow_p (Sat.start H) (puts_ok hR hn1 (by omega)) ?_
  rintro ⟨r, k⟩ H1 _ hx1 S1
  (repeat (first | (refine Step.go ?_; intros) | refine iteB_t (by decide) ?_ | refine iteB_f (by decide) ?_ | (refine Duo.mk (by first | omega | exact rfl | decide) ?_; intros) | (refine Duo.mk (Clo.mk (by kernel_rfl)) ?_; intros)))
  have S1' : Sat H1 (sO r n k (xs.map putOp) :: [old H]) := S1
  refine S1'.slApp (ys := ops) ((hQ.ext hx1).cells (fun y => rfl)) hm1 (fun y _ => rfl) op_isC rfl (by decide) (by omega) ?_
  intro p' c2 H2 S2
  have hl := (Sat.slLen S2 (.head _)).1
  refine grow_p S2 (play_ok (ops := xs.map putOp ++ ops) (S2.rowsAt (.head _)) (by rw [List.length_append, List.length_map]; omega) (by omega) hd1 hd2 ?_) ?_
  · intro o ho
    rcases List.mem_append.1 ho with h | h
    · obtain ⟨e, _, rfl⟩ := List.mem_map.1 h
      exact good_put e
    · exact hg o h
  · rintro ⟨p3, n3, k3, zs⟩ H3 hz hx3 S3
    dsimp only at hz ⊢
    have S3 : Sat H3 (sA p3 n3 k3 zs :: star (zs.map aP) :: sO p' (n + m) c2 (xs.map putOp ++ ops) :: [old H]) := S3
    have hzl : zs.length = n + m := by
      have := congrArg List.length hz
      rw [List.length_map, runA_len, List.length_append, List.length_map] at this
      omega
    have hn3 := (Sat.slLen S3 (.head _))
    obtain rfl : n3 = n + m := by omega
    (repeat (first | (refine Step.go ?_; intros) | refine iteB_t (by decide) ?_ | refine iteB_f (by decide) ?_ | (refine Duo.mk (by first | omega | exact rfl | decide) ?_; intros) | (refine Duo.mk (Clo.mk (by kernel_rfl)) ?_; intros)))
    rw [wr (by omega) (by omega)]
    refine iteB_f (by simp) ?_
    (repeat (first | (refine Step.go ?_; intros) | refine iteB_t (by decide) ?_ | refine iteB_f (by decide) ?_ | (refine Duo.mk (by first | omega | exact rfl | decide) ?_; intros) | (refine Duo.mk (Clo.mk (by kernel_rfl)) ?_; intros)))
    simp only [Int.toNat_natCast]
    have S4 := S3.to (Ent.slPart (f := ansC) (lo := n) (hi := n + m) (mx := k3) (by omega) hn3.2 (Nat.le_refl _) (Nat.le_refl _))
    have e1 : n + m - n = m := by omega
    rw [e1] at S4 ⊢
    have e2 : (zs.drop n).take m = zs.drop n := List.take_of_length_le (by simp; omega)
    rw [e2] at S4
    have S5 : Sat H3 (star (zs.map aP) :: _) := S4.to (Ent.bring (Sel.there Sel.here))
    have S6 := S5.to (starCut (n := n))
    refine ⟨(slP p3 n k3 6, k3 - n, zs.drop n), rfl, ?_, ?_⟩
    · show (zs.drop n).map Ans.abs = _
      rw [List.map_drop, hz, runA_app]
      exact List.drop_left' (by rw [runA_len, List.length_map, hn1])
    · show Sat H3 [sA (slP p3 n k3 6) m (k3 - n) (zs.drop n), star ((zs.drop n).map aP), old H]
      exact Sat.fin
theorem live_ok (S : Sat H l) : CallsH Try.prog 6 ⟨[]⟩ H (Gives (.bool true) H) := by
  have S := Sat.start H
  refine F6.calls ?_
  unfold F6.go
  (repeat (first | (refine Step.go ?_; intros) | refine iteB_t (by decide) ?_ | refine iteB_f (by decide) ?_ | (refine Duo.mk (by first | omega | exact rfl | decide) ?_; intros) | (refine Duo.mk (Clo.mk (by kernel_rfl)) ?_; intros)))
  rename_i r H1 S1
  have S2 : Sat H1 (sO (some ⟨r, 0, none⟩) 2 2 [⟨1, 0, ⟨4, 7⟩, 0, 0, 0, false⟩, ⟨3, 0, ⟨4, 0⟩, 0, 0, 0, false⟩] :: [old H]) := S1.to (Ent.slClose (f := Op.cells) (xs := [⟨1, 0, ⟨4, 7⟩, 0, 0, 0, false⟩, ⟨3, 0, ⟨4, 0⟩, 0, 0, 0, false⟩]) (pre := []) (sp := []) (z := 8) rfl (by simp) (by omega) rfl (by simp))
  have hR := S2.rowsAt (.head _)
  refine grow_p S2 (play_ok (d := 2) hR rfl (by decide) (by decide) (by decide) ?_) ?_
  · intro o ho
    simp only [List.mem_cons, List.not_mem_nil, or_false] at ho
    rcases ho with rfl | rfl
    · exact ⟨good1, rfl, by decide⟩
    · exact ⟨good3, rfl, by decide⟩
  · rintro ⟨p3, n3, k3, zs⟩ H3 hz hx3 S3
    dsimp only at hz ⊢
    have S3 : Sat H3 (sA p3 n3 k3 zs :: star (zs.map aP) :: sO (some ⟨r, 0, none⟩) 2 2 [⟨1, 0, ⟨4, 7⟩, 0, 0, 0, false⟩, ⟨3, 0, ⟨4, 0⟩, 0, 0, 0, false⟩] :: [old H]) := S3
    have hn3 := (Sat.slLen S3 (.head _)).1
    have hz2 : zs.map Ans.abs = [(false, 0, ⟨0, 0⟩, []), (true, 0, ⟨4, 7⟩, [])] := hz
    have hzl : zs.length = 2 := by have := congrArg List.length hz2; simpa using this
    obtain ⟨a, t, rfl, hzl1⟩ := len_cons hzl
    obtain ⟨b, u, rfl, hzl2⟩ := len_cons hzl1
    obtain rfl := len_nil hzl2
    simp only [List.map_cons, List.map_nil, List.cons.injEq, and_true] at hz2
    obtain ⟨_, hb⟩ := hz2
    obtain rfl : n3 = 2 := hn3.symm
    obtain ⟨r3, o3, rfl⟩ := Sat.slSome S3 (.head _) (by omega)
    have hb1 : b.ok = true := congrArg (fun (x : AA) => x.1) hb
    have hb2 : b.e = ⟨4, 7⟩ := congrArg (fun (x : AA) => x.2.2.1) hb
    have hI : HasI [a, b] 1 b := ⟨rfl⟩
    (repeat (first | (refine Step.go ?_; intros) | refine iteB_t (by decide) ?_ | refine iteB_f (by decide) ?_ | (refine Duo.mk (by first | omega | exact rfl | decide) ?_; intros) | (refine Duo.mk (Clo.mk (by kernel_rfl)) ?_; intros)))
    refine iteB_t hb1 ?_
    (repeat (first | (refine Step.go ?_; intros) | refine iteB_t (by decide) ?_ | refine iteB_f (by decide) ?_ | (refine Duo.mk (by first | omega | exact rfl | decide) ?_; intros) | (refine Duo.mk (Clo.mk (by kernel_rfl)) ?_; intros)))
    rw [hb2]
    refine itm_eq (a := ⟨4, 7⟩) (b := ⟨4, 7⟩) ?_
    exact ⟨rfl, Sat.grown⟩
end
end Go.Proofs.Ytdgcdjlomindhaa

set_option linter.unusedVariables false
set_option linter.unusedSimpArgs false
set_option linter.unnecessarySimpa false
namespace Go.Proofs.Ytdgcdjlomindhaa
open Go Go.Den Go.Proofs
/-! What elements with different keys make, in whatever order they come. -/
theorem srt_ext : ∀ {A B : List Itm}, Srt A → Srt B → (∀ x, x ∈ A ↔ x ∈ B) → A = B
  | [], [], _, _, _ => rfl
  | [], b :: B, _, _, h => absurd ((h b).2 (List.mem_cons_self ..)) (by simp)
  | a :: A, [], _, _, h => absurd ((h a).1 (List.mem_cons_self ..)) (by simp)
  | a :: A, b :: B, hA, hB, h => by
    have hA' := List.pairwise_cons.1 hA
    have hB' := List.pairwise_cons.1 hB
    have e : a = b := by
      rcases List.mem_cons.1 ((h a).1 (List.mem_cons_self ..)) with h1 | h1
      · exact h1
      · rcases List.mem_cons.1 ((h b).2 (List.mem_cons_self ..)) with h2 | h2
        · exact h2.symm
        · have := hA'.1 b h2
          have := hB'.1 a h1
          omega
    subst e
    have : A = B := srt_ext hA'.2 hB'.2 fun x => by
      constructor
      · intro hx
        rcases List.mem_cons.1 ((h x).1 (List.mem_cons_of_mem _ hx)) with h1 | h1
        · subst h1; have := hA'.1 x hx; omega
        · exact h1
      · intro hx
        rcases List.mem_cons.1 ((h x).2 (List.mem_cons_of_mem _ hx)) with h1 | h1
        · subst h1; have := hB'.1 x hx; omega
        · exact h1
    rw [this]
theorem runL_put : ∀ (xs : List Itm) (L : List Itm), Srt L → (∀ x ∈ L, ∀ y ∈ xs, x.k ≠ y.k) → (xs.map (·.k)).Nodup → Srt (runL L (xs.map putOp)) ∧ (∀ x, x ∈ runL L (xs.map putOp) ↔ x ∈ L ∨ x ∈ xs) ∧ (runL L (xs.map putOp)).length = L.length + xs.length
  | [], L, hs, _, _ => ⟨hs, fun x => by simp [runL], rfl⟩
  | e :: xs, L, hs, hd, hn => by
    have e1 : runL L ((e :: xs).map putOp) = runL (put L e) (xs.map putOp) := rfl
    rw [e1]
    have hn' : e.k ∉ xs.map (·.k) ∧ (xs.map (·.k)).Nodup := by simpa using hn
    obtain ⟨p1, p2, p3⟩ := put_srt (e := e) hs
    have g : getI L e.k = none := by
      have : ∀ (L : List Itm), (∀ x ∈ L, x.k ≠ e.k) → getI L e.k = none := by
        intro L
        induction L with
        | nil => intro _; rfl
        | cons a L ih =>
          intro h
          rw [getI, if_neg (fun h2 => h a (List.mem_cons_self ..) h2.symm)]
          exact ih fun x hx => h x (List.mem_cons_of_mem _ hx)
      exact this L fun x hx => hd x hx e (List.mem_cons_self ..)
    have p4 : ∀ x, x ∈ put L e ↔ x ∈ L ∨ x = e := by
      intro x
      constructor
      · intro h
        exact (p2 x h).symm
      · have : ∀ (L : List Itm), getI L e.k = none → (x ∈ L ∨ x = e) → x ∈ put L e := by
          intro L
          induction L with
          | nil => intro _ h; rcases h with h | h; exact absurd h (by simp); simp [put, h]
          | cons a L ih =>
            intro hg h
            rw [getI] at hg
            split at hg
            · cases hg
            · rename_i hne
              rw [put]
              split
              · rcases h with h | h
                · exact List.mem_cons_of_mem _ h
                · rw [h]; exact List.mem_cons_self ..
              · try rw [if_neg hne]
                rcases h with h | h
                · rcases List.mem_cons.1 h with h | h
                  · rw [h]; exact List.mem_cons_self ..
                  · exact List.mem_cons_of_mem _ (ih hg (.inl h))
                · exact List.mem_cons_of_mem _ (ih hg (.inr h))
        exact this L g
    obtain ⟨q1, q2, q3⟩ := runL_put xs (put L e) p1 (by
      intro x hx y hy
      rcases (p4 x).1 hx with h | h
      · exact hd x h y (List.mem_cons_of_mem _ hy)
      · rw [h]; exact fun h2 => hn'.1 (by rw [h2]; exact List.mem_map_of_mem hy)) hn'.2
    refine ⟨q1, fun x => ?_, ?_⟩
    · rw [q2, p4, List.mem_cons, or_assoc]
    · rw [q3, p3, g, List.length_cons]
      simp
      omega
theorem built {xs : List Itm} (hn : (xs.map (·.k)).Nodup) : Srt (runL [] (xs.map putOp)) ∧ (∀ x, x ∈ runL [] (xs.map putOp) ↔ x ∈ xs) ∧ (runL [] (xs.map putOp)).length = xs.length := by
  obtain ⟨a, b, c⟩ := runL_put xs [] List.Pairwise.nil (fun x hx => by cases hx) hn
  exact ⟨a, fun x => by simpa using b x, by simpa using c⟩
theorem built_perm {xs ys : List Itm} (hn : (xs.map (·.k)).Nodup) (hp : ys.Perm xs) : runL [] (ys.map putOp) = runL [] (xs.map putOp) := by
  obtain ⟨a, b, c⟩ := built hn
  obtain ⟨a', b', c'⟩ := built (xs := ys) ((hp.map _).nodup_iff.2 hn)
  exact srt_ext a' a fun x => by rw [b, b', hp.mem_iff]
end Go.Proofs.Ytdgcdjlomindhaa

set_option linter.unusedVariables false
set_option linter.unusedSimpArgs false
set_option linter.unnecessarySimpa false
namespace Go.Proofs.Ytdgcdjlomindhaa
open Go Go.Den Go.Proofs
/-! FnBTreeOrder walked. -/
abbrev intC (z : Int) : List Value := [.int .i64 z]
def ask (k : Int) : Op := ⟨k, 0, ⟨0, 0⟩, 0, 0, 0, false⟩
section
variable {p q : Option Addr} {n m c c' d : Nat} {H0 : Heap}
theorem live_end {H : Heap} {l : List HP} (hx : ExtH H0 H) {R : Ending → Heap → Prop} (S : Sat H l) (K : ∀ H1, ExtH H H1 → R (.returned (.bool true)) H1) : callD Try.prog 6 [] H (panK R) fun v H1 => tBool v fun b => R (.returned (.bool b)) H1 := by
  refine gives_i S (live_ok S) ?_
  intro H1 x1 S1
  (repeat (first | (refine Step.go ?_; intros) | refine iteB_t (by decide) ?_ | refine iteB_f (by decide) ?_ | (refine Duo.mk (by first | omega | exact rfl | decide) ?_; intros) | (refine Duo.mk (Clo.mk (by kernel_rfl)) ?_; intros)))
  exact K H1 x1
theorem swap_loop {xs : List Itm} {sw : List Int} (hS : RowsAt intC 1 H0 q sw) (hsl : sw.length = m) (hn1 : xs.length = n) (hn : n < 2 ^ 30) (hm : m < 2 ^ 40) {R : Ending → Heap → Prop} {s7 : Option Addr} {k7 : Nat} {p : Option Addr} {c : Nat}
    (K : ∀ ys H1, ys.Perm xs → Sat H1 [sI s7 n k7 ys, old H0] → F5.L2 (d : Int) p n c s7 n k7 q m c' (m : Int) (m : Int) H1 R) :
    ∀ (r i : Nat) (ys : List Itm) (H : Heap), i + r = m → ys.Perm xs → Sat H [sI s7 n k7 ys, old H0] → F5.L2 (d : Int) p n c s7 n k7 q m c' (m : Int) (i : Int) H R := by
  have RC : RowsC H0 q intC 1 sw := ⟨hS⟩
  intro r
  induction r with
  | zero =>
    intro i ys H hi hp S
    have hi : i = m := by omega
    subst hi
    exact K ys H hp S
  | succ r ih =>
    intro i ys H hi hp S
    have hyl : ys.length = n := by rw [hp.length_eq, hn1]
    obtain ⟨z, hz⟩ : ∃ z, sw[i]? = some z := get_of (by omega)
    have hI : HasI sw (i : Int) z := .nat hz
    have next : ∀ ys H, ys.Perm xs → Sat H [sI s7 n k7 ys, old H0] → F5.L7 (d : Int) p n c s7 n k7 q m c' (m : Int) (i : Int) H R := by
      intro ys H hp S
      refine F5.L7_step ?_
      unfold F5.L7n
      rw [wadd (by omega)]
      exact ih (i + 1) ys H (by omega) hp S
    refine F5.L2_step ?_
    unfold F5.L2n
    refine iteB_t (by simp; omega) ?_
    refine RC.idx hsl ⟨by omega, by omega, fun a ha => ?_⟩
    subst ha
    (repeat (first | (refine Step.go ?_; intros) | refine iteB_t (by decide) ?_ | refine iteB_f (by decide) ?_ | (refine Duo.mk (by first | omega | exact rfl | decide) ?_; intros) | (refine Duo.mk (Clo.mk (by kernel_rfl)) ?_; intros)))
    refine iteB_i (fun h1 => ?_) (fun h1 => next ys H hp S)
    refine iteB_i (fun h2 => ?_) (fun h2 => next ys H hp S)
    have h1 : i < n := by have := of_decide_eq_true h1; omega
    have h2 : 0 ≤ z := of_decide_eq_true h2
    obtain ⟨w, rfl⟩ : ∃ w : Nat, z = w := ⟨z.toNat, by omega⟩
    have hwm : w % n < n := Nat.mod_lt _ (by omega)
    have hmod : Int.tmod (w : Int) ((n : Nat) : Int) = ((w % n : Nat) : Int) := by rw [Int.tmod_eq_emod_of_nonneg (by omega)]; omega
    refine F5.L6_step ?_
    unfold F5.L6n
    rw [hmod]
    refine ⟨by omega, ?_⟩
    obtain ⟨a, ha⟩ : ∃ a, ys[i]? = some a := get_of (by omega)
    obtain ⟨b, hb⟩ : ∃ b, ys[w % n]? = some b := get_of (by omega)
    have hI1 : HasI ys (i : Int) a := .nat ha
    have hJ1 : HasI ys ((w % n : Nat) : Int) b := .nat hb
    refine Sat.idx (f := Itm.cells) (E := 25) (z := 2) S ⟨by omega, by omega, fun r o hr => ?_⟩
    subst hr
    (repeat (first | (refine Step.go ?_; intros) | refine iteB_t (by decide) ?_ | refine iteB_f (by decide) ?_ | (refine Duo.mk (by first | omega | exact rfl | decide) ?_; intros) | (refine Duo.mk (Clo.mk (by kernel_rfl)) ?_; intros)))
    rename_i S1
    have hI2 : HasI (ys.set (Int.toNat (i : Int)) ⟨b.k, a.v⟩) (i : Int) ⟨b.k, a.v⟩ := ⟨by simp only [Int.toNat_natCast]; rw [List.getElem?_set_self (by omega)]⟩
    (repeat (first | (refine Step.go ?_; intros) | refine iteB_t (by decide) ?_ | refine iteB_f (by decide) ?_ | (refine Duo.mk (by first | omega | exact rfl | decide) ?_; intros) | (refine Duo.mk (Clo.mk (by kernel_rfl)) ?_; intros)))
    rename_i S2
    simp only [List.set_set, Int.toNat_natCast] at S2
    have hJ2 : HasI (ys.set i b) ((w % n : Nat) : Int) b := .nat (by
      by_cases e : w % n = i
      · rw [e, List.getElem?_set_self (by omega)]
      · rw [List.getElem?_set_ne (by omega)]; exact hb)
    have S2' : Sat _ [sI (some ⟨r, o, none⟩) n k7 (ys.set i b), old H0] := S2
    clear S1 hI1 hJ1 hI2 S2
    (repeat (first | (refine Step.go ?_; intros) | refine iteB_t (by decide) ?_ | refine iteB_f (by decide) ?_ | (refine Duo.mk (by first | omega | exact rfl | decide) ?_; intros) | (refine Duo.mk (Clo.mk (by kernel_rfl)) ?_; intros)))
    rename_i S3
    have hJ3 : HasI ((ys.set i b).set (Int.toNat ((w % n : Nat) : Int)) ⟨a.k, b.v⟩) ((w % n : Nat) : Int) ⟨a.k, b.v⟩ := ⟨by simp only [Int.toNat_natCast]; rw [List.getElem?_set_self (by simp; omega)]⟩
    (repeat (first | (refine Step.go ?_; intros) | refine iteB_t (by decide) ?_ | refine iteB_f (by decide) ?_ | (refine Duo.mk (by first | omega | exact rfl | decide) ?_; intros) | (refine Duo.mk (Clo.mk (by kernel_rfl)) ?_; intros)))
    rename_i S4
    simp only [List.set_set, Int.toNat_natCast] at S4
    refine next ((ys.set i b).set (w % n) a) _ ?_ S4
    have hg := @List.set_set_perm _ ys i (w % n) (by omega) (by omega)
    have e1 : ys[w % n]'(by omega) = b := by rw [List.getElem?_eq_getElem (by omega)] at hb; exact Option.some.inj hb
    have e2 : ys[i]'(by omega) = a := by rw [List.getElem?_eq_getElem (by omega)] at ha; exact Option.some.inj ha
    rw [e1, e2] at hg
    exact hg.trans hp
end
end Go.Proofs.Ytdgcdjlomindhaa
