/- What functions of this seat do, each proved by a walk; no condition. -/
import Derived.Test.YtobolifgehagfaaGreatRM2
import Derived.Test.YtobolifgehagfaaGreatQM3
import Derived.Test.YtobolifgehagfaaGreatQM6
set_option linter.unusedVariables false
set_option linter.unusedSimpArgs false
set_option linter.unnecessarySimpa false
namespace Go.Proofs.YtobolifgehagfaaGreat
open Go Go.Den Go.Proofs
namespace Cmp
structure TR where
  q : Option Addr
  n : Nat
  c : Nat
  rv : Int
  mo : Int
abbrev tC (x : Int) (t : TR) : List Value := [.int .i64 x, .slice t.q t.n t.c, .int .i64 t.rv, .int .i64 t.mo]
abbrev seCC (f : Int → TR) (x : Int) : List Value := tC x (f x)
theorem sl_rows {α : Type} {g : α → List Value} {E : TypeId} {z n c : Nat} {p : Option Addr} {xs : List α} {l : List HP} : Ent (sl g E z p n c xs :: l) (sl idC E z p n c (xs.map g) :: l) := by
  refine Ent.first fun k hk => ?_
  obtain ⟨a1, a2, a3, a4⟩ := hk
  refine ⟨by rw [List.length_map]; exact a1, ?_, a3, ?_⟩
  · intro r hr
    obtain ⟨x, hx, rfl⟩ := List.mem_map.1 hr
    exact a2 x hx
  · rw [List.flatMap_map]
    exact a4
theorem rows_sl {α : Type} {g : α → List Value} {E : TypeId} {z n c : Nat} {p : Option Addr} {xs : List α} {l : List HP} : Ent (sl idC E z p n c (xs.map g) :: l) (sl g E z p n c xs :: l) := by
  refine Ent.first fun k hk => ?_
  obtain ⟨a1, a2, a3, a4⟩ := hk
  refine ⟨by rw [List.length_map] at a1; exact a1, fun x hx => a2 _ (List.mem_map_of_mem hx), a3, ?_⟩
  rw [List.flatMap_map] at a4
  exact a4
section
variable {H H0 : Heap} {l : List HP} {f : Int → TR}
abbrev cmpF : FV := .mk (.func 48) ⟨[]⟩ ⟨[]⟩
theorem cmp_ok (x y : Int) (s t : TR) : CallsH Tryz.prog 48 ⟨[.agg ⟨tC x s⟩, .agg ⟨tC y t⟩]⟩ H (Gives (.int .i64 (if x < y then -1 else if y < x then 1 else 0)) H) := by
  have S := Sat.start H
  refine F48.calls ?_
  unfold F48.go
  (repeat (first | (refine Step.go ?_; intros) | refine iteB_t (by decide) ?_ | refine iteB_f (by decide) ?_ | (refine Duo.mk (by first | omega | exact rfl | decide) ?_; intros) | (refine Duo.mk (Clo.mk (by kernel_rfl)) ?_; intros)))
  refine iteB_i (fun h => ?_) (fun h => ?_)
  · rw [if_pos (of_decide_eq_true h)]; exact ⟨rfl, Sat.grown⟩
  · rw [if_neg (of_decide_eq_false h)]
    (repeat (first | (refine Step.go ?_; intros) | refine iteB_t (by decide) ?_ | refine iteB_f (by decide) ?_ | (refine Duo.mk (by first | omega | exact rfl | decide) ?_; intros) | (refine Duo.mk (Clo.mk (by kernel_rfl)) ?_; intros)))
    refine iteB_i (fun h => ?_) (fun h => ?_)
    · rw [if_pos (of_decide_eq_true h)]; exact ⟨rfl, Sat.grown⟩
    · rw [if_neg (of_decide_eq_false h)]; exact ⟨rfl, Sat.grown⟩
theorem lessV {v u : Int} {Q : List PanicEntry → Heap → Prop} {X Y : Heap → Prop} (S : Sat H l) (k : ∀ H1, ExtH H H1 → Sat H1 l → iteB (decide (v < u)) (X H1) (Y H1)) :
    callD Tryz.prog 48 ([] ++ [.agg ⟨seCC f v⟩, .agg ⟨seCC f u⟩] ++ []) H Q fun w H1 => tInt w .i64 fun n => iteB (decide (n < (0 : Int))) (X H1) (Y H1) := by
  refine gives_i S (cmp_ok v u (f v) (f u)) fun H1 E1 S1 => ?_
  refine ⟨_, rfl, ?_⟩
  have e : decide ((if v < u then (-1 : Int) else if u < v then 1 else 0) < 0) = decide (v < u) := by
    by_cases h : v < u
    · simp [h]
    · by_cases h2 : u < v
      · simp [h, h2]
      · simp [h, h2]
  dsimp only
  rw [e]
  exact k H1 E1 S1
theorem lessK {v u : Int} {Q : List PanicEntry → Heap → Prop} {K : Value → Heap → Prop} (S : Sat H l) (k : ∀ (H1 : Heap) (n : Int), ExtH H H1 → Sat H1 l → decide (n < 0) = seLt v u → K (.int .i64 n) H1) :
    callD Tryz.prog 48 ([] ++ [.agg ⟨seCC f v⟩, .agg ⟨seCC f u⟩] ++ []) H Q K := by
  refine gives_i S (cmp_ok v u (f v) (f u)) fun H1 E1 S1 => ?_
  refine k H1 _ E1 S1 ?_
  unfold seLt
  by_cases h : v < u
  · simp [h]
  · by_cases h2 : u < v
    · simp [h, h2]
    · simp [h, h2]
theorem row4 {A : Addr} {n c i : Nat} {R : List (List Value)} {x : Int} {s : TR} {y : Int} {t : TR} {E : TypeId} {K : Heap → Prop} (S : Sat H (sl idC E 4 (some A) n c R :: l)) (hi : R[i]? = some (tC x s)) (k : ∀ H1, Sat H1 (sl idC E 4 (some A) n c (R.set i (tC y t)) :: l) → K H1) :
    st1 H (Addr.add A (Int.toNat ((i : Nat) : Int) * 4)) (.int .i64 y) fun H1 => st1 H1 (Addr.add (Addr.add A (Int.toNat ((i : Nat) : Int) * 4)) 1) (.slice t.q t.n t.c) fun H2 => st1 H2 (Addr.add (Addr.add A (Int.toNat ((i : Nat) : Int) * 4)) 2) (.int .i64 t.rv) fun H3 => st1 H3 (Addr.add (Addr.add A (Int.toNat ((i : Nat) : Int) * 4)) 3) (.int .i64 t.mo) K := by
  rw [Int.toNat_natCast, add_add', add_add', add_add']
  have hl := lt_of hi
  refine S.slSet (i := i) (j := 0) (x := tC x s) (y := tC y s) hi (by omega) rfl rfl fun H1 S1 => ?_
  refine S1.slSet (i := i) (j := 1) (x := tC y s) (y := tC y ⟨t.q, t.n, t.c, s.rv, s.mo⟩) (by simp [hl]) (by omega) rfl rfl fun H2 S2 => ?_
  refine S2.slSet (i := i) (j := 2) (x := tC y ⟨t.q, t.n, t.c, s.rv, s.mo⟩) (y := tC y ⟨t.q, t.n, t.c, t.rv, s.mo⟩) (by simp [hl]) (by omega) rfl rfl fun H3 S3 => ?_
  refine S3.slSet (i := i) (j := 3) (x := tC y ⟨t.q, t.n, t.c, t.rv, s.mo⟩) (y := tC y t) (by simp [hl]) (by omega) rfl rfl fun H4 S4 => ?_
  refine k H4 ?_
  simpa using S4
theorem swap_iC {A : Addr} {n c i j : Nat} {xs : List Int} {x y : Int} {K : Heap → Prop} (S : Sat H (sl (seCC f) 39 4 (some A) n c xs :: l)) (hi : xs[i]? = some x) (hj : xs[j]? = some y) (k : ∀ H1, Sat H1 (sl (seCC f) 39 4 (some A) n c (swp xs i j x y) :: l) → K H1) :
    st1 H (Addr.add A (Int.toNat ((i : Nat) : Int) * 4)) (.int .i64 y) fun H1 => st1 H1 (Addr.add (Addr.add A (Int.toNat ((i : Nat) : Int) * 4)) 1) (.slice (f y).q (f y).n (f y).c) fun H2 => st1 H2 (Addr.add (Addr.add A (Int.toNat ((i : Nat) : Int) * 4)) 2) (.int .i64 (f y).rv) fun H3 => st1 H3 (Addr.add (Addr.add A (Int.toNat ((i : Nat) : Int) * 4)) 3) (.int .i64 (f y).mo) fun H4 =>
      idxD (some A) n ((j : Nat) : Int) fun a4 => st1 H4 (Addr.add a4 (Int.toNat ((j : Nat) : Int) * 4)) (.int .i64 x) fun H5 => st1 H5 (Addr.add (Addr.add a4 (Int.toNat ((j : Nat) : Int) * 4)) 1) (.slice (f x).q (f x).n (f x).c) fun H6 => st1 H6 (Addr.add (Addr.add a4 (Int.toNat ((j : Nat) : Int) * 4)) 2) (.int .i64 (f x).rv) fun H7 => st1 H7 (Addr.add (Addr.add a4 (Int.toNat ((j : Nat) : Int) * 4)) 3) (.int .i64 (f x).mo) K := by
  have hl := (Sat.slLen S (List.mem_cons_self ..)).1
  have h1 := lt_of hi
  have h2 := lt_of hj
  obtain ⟨z, hz⟩ : ∃ z, (xs.set i y)[j]? = some z := get_of (by rw [List.length_set]; exact h2)
  refine row4 (x := x) (s := f x) (y := y) (t := f y) (S.to sl_rows) (by rw [List.getElem?_map, hi]; rfl) fun H4 S4 => ?_
  refine ⟨by omega, by omega, ?_⟩
  have e1 : (xs.map (seCC f)).set i (tC y (f y)) = (xs.set i y).map (seCC f) := by rw [List.map_set]
  rw [e1] at S4
  refine row4 (x := z) (s := f z) (y := x) (t := f x) S4 (by rw [List.getElem?_map, hz]; rfl) fun H8 S8 => ?_
  have e2 : ((xs.set i y).map (seCC f)).set j (tC x (f x)) = ((xs.set i y).set j x).map (seCC f) := (List.map_set ..).symm
  rw [e2] at S8
  exact k H8 (S8.to rows_sl)
end
end Cmp
end Go.Proofs.YtobolifgehagfaaGreat

set_option linter.unusedVariables false
set_option linter.unusedSimpArgs false
set_option linter.unnecessarySimpa false
namespace Go.Proofs.YtobolifgehagfaaGreat
open Go Go.Den Go.Proofs
namespace Cmp
section
variable {H H0 : Heap} {l : List HP}
theorem insert_sortC {f : Int → TR} {p : Option Addr} {n c a b : Nat} {xs : List Int} (hab : a ≤ b) (hb : b ≤ n) (hn : n ≤ 1000000000) (hd : Dif xs) (S : Sat H (sl (seCC f) 39 4 p n c xs :: l)) :
    CallsH Tryz.prog 82 ⟨[.slice p n c, .int .i64 (a : Nat), .int .i64 (b : Nat), FV.v cmpF]⟩ H (fun e H1 => e = .returned (.tuple ⟨[]⟩) ∧ ∃ ys, RP a b xs ys ∧ SoR seLt a b ys ∧ Sat H1 (sl (seCC f) 39 4 p n c ys :: l)) := by
  refine F82.calls ?_
  unfold F82.go
  have outer : ∀ (k i : Nat) (ys : List Int) (H : Heap), i + k = b ∨ (k = 0 ∧ b ≤ i) → a < i → RP a b xs ys → SoR seLt a i ys → Sat H (sl (seCC f) 39 4 p n c ys :: l) →
      F82.L0 p n c (a : Nat) (b : Nat) cmpF (i : Nat) H (fun e H1 => e = .returned (.tuple ⟨[]⟩) ∧ ∃ ys, RP a b xs ys ∧ SoR seLt a b ys ∧ Sat H1 (sl (seCC f) 39 4 p n c ys :: l)) := by
    intro k
    induction k with
    | zero =>
      intro i ys H hi hai hr hs S
      refine F82.L0_step ?_
      unfold F82.L0n
      refine iteB_f (by simp; omega) ?_
      exact ⟨rfl, ys, hr, fun p q x y c1 c2 c3 => hs p q x y c1 c2 (by omega), S⟩
    | succ k ih =>
      intro i ys H hi hai hr hs S
      have hib : i + (k + 1) = b := by omega
      refine F82.L0_step ?_
      unfold F82.L0n
      refine iteB_t (by simp; omega) ?_
      have inner : ∀ (j : Nat) (zs : List Int) (H : Heap), a ≤ j → j ≤ i → RP a b xs zs → InsInv seLt a i j zs → Sat H (sl (seCC f) 39 4 p n c zs :: l) →
          F82.L1 p n c (a : Nat) (b : Nat) cmpF (i : Nat) (j : Nat) H (fun e H1 => e = .returned (.tuple ⟨[]⟩) ∧ ∃ ys, RP a b xs ys ∧ SoR seLt a b ys ∧ Sat H1 (sl (seCC f) 39 4 p n c ys :: l)) := by
        intro j
        induction j with
        | zero =>
          intro zs H h1 h2 hr hv S
          have hl := (Sat.slLen S (List.mem_cons_self ..)).1
          refine F82.L1_step ?_
          unfold F82.L1n
          refine iteB_f (by simp) ?_
          refine F82.L2_step ?_
          unfold F82.L2n
          rw [wr64 (by omega) (by omega), show ((i : Nat) : Int) + 1 = ((i + 1 : Nat) : Int) by omega]
          exact ih (i + 1) zs H (by omega) (by omega) hr (hv.done seLin (hr.dif hd) ⟨by omega, by omega⟩ (by omega) (.inl (by omega))) S
        | succ j ihj =>
          intro zs H h1 h2 hr hv S
          have hl := (Sat.slLen S (List.mem_cons_self ..)).1
          have stop : ∀ H1, Sat H1 (sl (seCC f) 39 4 p n c zs :: l) → (j + 1 = a ∨ ∃ v u, zs[j + 1]? = some v ∧ zs[j + 1 - 1]? = some u ∧ seLt v u = false) → F82.L2 p n c (a : Nat) (b : Nat) cmpF (i : Nat) H1 (fun e H1 => e = .returned (.tuple ⟨[]⟩) ∧ ∃ ys, RP a b xs ys ∧ SoR seLt a b ys ∧ Sat H1 (sl (seCC f) 39 4 p n c ys :: l)) := by
            intro H1 S1 hst
            refine F82.L2_step ?_
            unfold F82.L2n
            rw [wr64 (by omega) (by omega), show ((i : Nat) : Int) + 1 = ((i + 1 : Nat) : Int) by omega]
            exact ih (i + 1) zs H1 (by omega) (by omega) hr (hv.done seLin (hr.dif hd) ⟨h1, h2⟩ (by omega) hst) S1
          obtain ⟨v, hv1⟩ : ∃ v, zs[j + 1]? = some v := get_of (by omega)
          obtain ⟨u, hu1⟩ : ∃ u, zs[j]? = some u := get_of (by omega)
          have hI1 := HasI.nat hv1
          have hI2 := HasI.nat hu1
          have eI : IntKind.wrap .i64 (((j + 1 : Nat) : Int) - (1 : Int)) = ((j : Nat) : Int) := by
            rw [wr64 (by omega) (by omega)]; omega
          obtain ⟨ra, oa, rfl⟩ := S.slSome (List.mem_cons_self ..) (by omega)
          refine F82.L1_step ?_
          unfold F82.L1n
          refine iteB_i (fun hgt => ?_) (fun hgt => stop H S (.inl (by have := of_decide_eq_false hgt; omega)))
          have hgt : a < j + 1 := by have := of_decide_eq_true hgt; omega
          rw [eI]
          (repeat (first | (refine Step.go ?_; intros) | refine iteB_t (by decide) ?_ | refine iteB_f (by decide) ?_ | (refine Duo.mk (by first | omega | exact rfl | decide) ?_; intros) | (refine Duo.mk (Clo.mk (by kernel_rfl)) ?_; intros)))
          refine lessV (f := f) (v := v) (u := u) S fun H1 E1 S1 => ?_
          refine iteB_i (fun hlt => ?_) (fun hlt => stop H1 S1 (.inr ⟨v, u, hv1, hu1, hlt⟩))
          clear S
          refine F82.L3_step ?_
          unfold F82.L3n
          rw [eI]
          refine Step.go ?_
          refine Duo.mk ⟨by omega, by omega⟩ ?_
          refine Step.go ?_
          refine Duo.mk ⟨by omega, by omega⟩ ?_
          iterate 8 (refine Step.go ?_)
          refine Step.go ?_
          refine Duo.mk ⟨by omega, by omega⟩ ?_
          refine swap_iC S1 hv1 hu1 fun H2 S9 => ?_
          exact ihj _ _ (by omega) (by omega) (hr.trans (RP.one ⟨by omega, by omega⟩ ⟨by omega, by omega⟩ hv1 hu1)) (hv.step (j := j + 1) hgt h2 hv1 hu1 hlt) S9
      exact inner i ys H (by omega) (Nat.le_refl _) hr (InsInv.start hs) S
  rw [wr64 (by omega) (by omega), show ((a : Nat) : Int) + 1 = ((a + 1 : Nat) : Int) by omega]
  refine outer (b - (a + 1)) (a + 1) xs H (by omega) (by omega) (.refl _) (fun p q x y c1 c2 c3 => by omega) S
end
end Cmp
end Go.Proofs.YtobolifgehagfaaGreat

set_option linter.unusedVariables false
set_option linter.unusedSimpArgs false
set_option linter.unnecessarySimpa false
namespace Go.Proofs.YtobolifgehagfaaGreat
open Go Go.Den Go.Proofs
namespace Cmp
structure PInvC (a b : Nat) (pv : SE) (i j : Nat) (ys : List Int) : Prop where
  at_ : ys[a]? = some pv
  lo : ∀ k x, a < k → k < i → ys[k]? = some x → seLt x pv = true
  hi : ∀ k x, j < k → k < b → ys[k]? = some x → seLt x pv = false
  ai : a < i
  ij : i ≤ j + 1
  jb : j < b
theorem PInvC.up {a b i j : Nat} {pv x : SE} {ys : List Int} (h : PInvC a b pv i j ys) (hij : i ≤ j) (hx : ys[i]? = some x) (hlt : seLt x pv = true) : PInvC a b pv (i + 1) j ys :=
  ⟨h.at_, fun k y h1 h2 h3 => by
    by_cases hk : k = i
    · subst hk; rw [hx] at h3; cases h3; exact hlt
    · exact h.lo k y h1 (by omega) h3, h.hi, by have := h.ai; omega, by omega, h.jb⟩
theorem PInvC.down {a b i j : Nat} {pv x : SE} {ys : List Int} (h : PInvC a b pv i j ys) (hij : i ≤ j) (hx : ys[j]? = some x) (hlt : seLt x pv = false) : PInvC a b pv i (j - 1) ys :=
  ⟨h.at_, h.lo, fun k y h1 h2 h3 => by
    by_cases hk : k = j
    · subst hk; rw [hx] at h3; cases h3; exact hlt
    · exact h.hi k y (by omega) h2 h3, h.ai, by have := h.ai; omega, by have := h.jb; omega⟩
theorem PInvC.sw {a b i j : Nat} {pv x y : SE} {ys : List Int} (h : PInvC a b pv i j ys) (hij : i < j) (hx : ys[i]? = some x) (hy : ys[j]? = some y) (h1 : seLt x pv = false) (h2 : seLt y pv = true) : PInvC a b pv (i + 1) (j - 1) (swp ys i j x y) := by
  have hai := h.ai
  have hjb := h.jb
  refine ⟨?_, fun k z k1 k2 k3 => ?_, fun k z k1 k2 k3 => ?_, by omega, by omega, by omega⟩
  · rw [swp_get hx hy, if_neg (by omega), if_neg (by omega)]; exact h.at_
  · rw [swp_get hx hy, if_neg (by omega)] at k3
    by_cases hk : k = i
    · rw [if_pos hk] at k3; cases k3; exact h2
    · rw [if_neg hk] at k3; exact h.lo k z k1 (by omega) k3
  · rw [swp_get hx hy] at k3
    by_cases hk : k = j
    · rw [if_pos hk] at k3; cases k3; exact h1
    · rw [if_neg hk, if_neg (by omega)] at k3; exact h.hi k z (by omega) k2 k3
def PartedC (a b mid : Nat) (ys : List Int) : Prop := a ≤ mid ∧ mid < b ∧ ∃ pv, ys[mid]? = some pv ∧ (∀ k x, a ≤ k → k < mid → ys[k]? = some x → seLt x pv = true) ∧ ∀ k x, mid < k → k < b → ys[k]? = some x → seLt x pv = false
theorem PInvC.fin {a b i j : Nat} {pv x : SE} {ys : List Int} (h : PInvC a b pv i j ys) (hij : j < i) (hx : ys[j]? = some x) : PartedC a b j (swp ys j a x pv) := by
  have hai := h.ai
  have hjb := h.jb
  have hij2 := h.ij
  refine ⟨by omega, hjb, pv, ?_, fun k z k1 k2 k3 => ?_, fun k z k1 k2 k3 => ?_⟩
  · rw [swp_get hx h.at_]
    by_cases hja : j = a
    · rw [if_pos hja]; subst hja; rw [h.at_] at hx; exact hx.symm
    · rw [if_neg hja, if_pos rfl]
  · rw [swp_get hx h.at_] at k3
    by_cases hk : k = a
    · rw [if_pos hk] at k3; cases k3
      exact h.lo j x (by omega) (by omega) hx
    · rw [if_neg hk, if_neg (by omega)] at k3
      exact h.lo k z (by omega) (by omega) k3
  · rw [swp_get hx h.at_, if_neg (by omega), if_neg (by omega)] at k3
    exact h.hi k z k1 k2 k3
section
variable {f : Int → TR} {H H0 : Heap} {l : List HP}
def PEndC (a b : Nat) (p : Option Addr) (n c : Nat) (xs : List Int) (l : List HP) (e : Ending) (H1 : Heap) : Prop :=
  ∃ (mid : Nat) (r : Bool) (ys : List Int), e = .returned (.tuple ⟨[.int .i64 (mid : Nat), .bool r]⟩) ∧ RP a b xs ys ∧ PartedC a b mid ys ∧ Sat H1 (sl (seCC f) 39 4 p n c ys :: l)
theorem part2C {a b n c : Nat} {A : Addr} {xs : List Int} {pv : SE} (hb : b ≤ n) (hn : n ≤ 1000000000) :
    ∀ (m i j : Nat) (ys : List Int) (H : Heap), j + 1 - i ≤ m → RP a b xs ys → PInvC a b pv i j ys → Sat H (sl (seCC f) 39 4 (some A) n c ys :: l) → F89.L5 (some A) n c (a : Nat) cmpF (i : Nat) (j : Nat) H (PEndC (f := f) a b (some A) n c xs l) := by
  intro m
  induction m using Nat.strongRecOn with
  | ind m ihm =>
  -- the end of a round
  have exit : ∀ (i j : Nat) (ys : List Int) (H : Heap), j + 1 - i ≤ m → RP a b xs ys → PInvC a b pv i j ys → (j < i ∨ ∃ x, ys[i]? = some x ∧ seLt x pv = false) → (j < i ∨ ∃ x, ys[j]? = some x ∧ seLt x pv = true) → Sat H (sl (seCC f) 39 4 (some A) n c ys :: l) → F89.L8 (some A) n c (a : Nat) cmpF (i : Nat) (j : Nat) H (PEndC (f := f) a b (some A) n c xs l) := by
    intro i j ys H hm hr hv hsi hsj S
    have hl := (Sat.slLen S (List.mem_cons_self ..)).1
    have hai := hv.ai
    have hjb := hv.jb
    have hij2 := hv.ij
    obtain ⟨y, hy⟩ : ∃ y, ys[j]? = some y := get_of (by omega)
    have hIj := HasI.nat hy
    have hIa := HasI.nat hv.at_
    refine F89.L8_step ?_
    unfold F89.L8n
    refine iteB_i (fun h => ?_) (fun h => ?_)
    · have h : j < i := by have := of_decide_eq_true h; omega
      refine Step.go ?_
      refine Duo.mk ⟨by omega, by omega⟩ ?_
      refine Step.go ?_
      refine Duo.mk ⟨by omega, by omega⟩ ?_
      iterate 9 (refine Step.go ?_)
      refine Duo.mk ⟨by omega, by omega⟩ ?_
      refine swap_iC S hy hv.at_ fun H2 S2 => ?_
      exact ⟨j, false, _, rfl, hr.trans (RP.one ⟨by omega, by omega⟩ ⟨by omega, by omega⟩ hy hv.at_), hv.fin h hy, S2⟩
    · have h : ¬ j < i := by have := of_decide_eq_false h; omega
      obtain ⟨x, hx, hx2⟩ := hsi.resolve_left h
      obtain ⟨y', hy', hy2⟩ := hsj.resolve_left h
      rw [hy] at hy'; cases hy'
      have hne : i ≠ j := by
        intro e; subst e
        rw [hx] at hy; cases hy
        rw [hx2] at hy2; cases hy2
      have hIi := HasI.nat hx
      refine Step.go ?_
      refine Duo.mk ⟨by omega, by omega⟩ ?_
      refine Step.go ?_
      refine Duo.mk ⟨by omega, by omega⟩ ?_
      iterate 9 (refine Step.go ?_)
      refine Duo.mk ⟨by omega, by omega⟩ ?_
      refine swap_iC S hx hy fun H2 S2 => ?_
      rw [wr64 (by omega) (by omega), wr64 (by omega) (by omega), show ((i : Nat) : Int) + 1 = ((i + 1 : Nat) : Int) by omega, show ((j : Nat) : Int) - 1 = ((j - 1 : Nat) : Int) by omega]
      have hr2 := hr.trans (RP.one ⟨by omega, by omega⟩ ⟨by omega, by omega⟩ hx hy)
      have hv2 := hv.sw (by omega) hx hy hx2 hy2
      refine F89.L4_step ?_
      unfold F89.L4n
      exact ihm (j - 1 + 1 - (i + 1)) (by omega) (i + 1) (j - 1) _ H2 (Nat.le_refl _) hr2 hv2 S2
  have downs : ∀ (q i j : Nat) (ys : List Int) (H : Heap), j + 1 - i ≤ q → j + 1 - i ≤ m → RP a b xs ys → PInvC a b pv i j ys → (j < i ∨ ∃ x, ys[i]? = some x ∧ seLt x pv = false) → Sat H (sl (seCC f) 39 4 (some A) n c ys :: l) → F89.L7 (some A) n c (a : Nat) cmpF (i : Nat) (j : Nat) H (PEndC (f := f) a b (some A) n c xs l) := by
    intro q
    induction q with
    | zero =>
      intro i j ys H hq hm hr hv hsi S
      refine F89.L7_step ?_
      unfold F89.L7n
      refine iteB_f (by simp; omega) ?_
      exact exit i j ys H hm hr hv hsi (.inl (by omega)) S
    | succ q ihq =>
      intro i j ys H hq hm hr hv hsi S
      have hl := (Sat.slLen S (List.mem_cons_self ..)).1
      have hai := hv.ai
      have hjb := hv.jb
      obtain ⟨y, hy⟩ : ∃ y, ys[j]? = some y := get_of (by omega)
      have hIj := HasI.nat hy
      have hIa := HasI.nat hv.at_
      refine F89.L7_step ?_
      unfold F89.L7n
      refine iteB_i (fun h => ?_) (fun h => exit i j ys H hm hr hv hsi (.inl (by have := of_decide_eq_false h; omega)) S)
      have h : i ≤ j := by have := of_decide_eq_true h; omega
      (repeat (first | (refine Step.go ?_; intros) | refine iteB_t (by decide) ?_ | refine iteB_f (by decide) ?_ | (refine Duo.mk (by first | omega | exact rfl | decide) ?_; intros) | (refine Duo.mk (Clo.mk (by kernel_rfl)) ?_; intros)))
      refine lessK (f := f) (v := y) (u := pv) S fun H1 nn E1 S1 hnn => ?_
      refine ⟨_, rfl, ?_⟩
      dsimp only
      rw [hnn]
      refine iteB_i (fun hlt => ?_) (fun hlt => exit i j ys H1 hm hr hv hsi (.inr ⟨y, hy, by simpa using hlt⟩) S1)
      have hlt : seLt y pv = false := by simpa using hlt
      refine F89.L9_step ?_
      unfold F89.L9n
      rw [wr64 (by omega) (by omega), show ((j : Nat) : Int) - 1 = ((j - 1 : Nat) : Int) by omega]
      refine ihq i (j - 1) ys H1 (by omega) (by omega) hr (hv.down h hy hlt) ?_ S1
      rcases hsi with hsi | hsi
      · exact .inl (by omega)
      · exact .inr hsi
  have ups : ∀ (q i j : Nat) (ys : List Int) (H : Heap), j + 1 - i ≤ q → j + 1 - i ≤ m → RP a b xs ys → PInvC a b pv i j ys → Sat H (sl (seCC f) 39 4 (some A) n c ys :: l) → F89.L5 (some A) n c (a : Nat) cmpF (i : Nat) (j : Nat) H (PEndC (f := f) a b (some A) n c xs l) := by
    intro q
    induction q with
    | zero =>
      intro i j ys H hq hm hr hv S
      refine F89.L5_step ?_
      unfold F89.L5n
      refine iteB_f (by simp; omega) ?_
      refine F89.L6_step ?_
      unfold F89.L6n
      exact downs _ i j ys H (Nat.le_refl _) hm hr hv (.inl (by omega)) S
    | succ q ihq =>
      intro i j ys H hq hm hr hv S
      have hl := (Sat.slLen S (List.mem_cons_self ..)).1
      have hai := hv.ai
      have hjb := hv.jb
      have next : ∀ H1, Sat H1 (sl (seCC f) 39 4 (some A) n c ys :: l) → (j < i ∨ ∃ x, ys[i]? = some x ∧ seLt x pv = false) → F89.L6 (some A) n c (a : Nat) cmpF (i : Nat) (j : Nat) H1 (PEndC (f := f) a b (some A) n c xs l) := by
        intro H1 S1 hs
        refine F89.L6_step ?_
        unfold F89.L6n
        exact downs _ i j ys H1 (Nat.le_refl _) hm hr hv hs S1
      refine F89.L5_step ?_
      unfold F89.L5n
      refine iteB_i (fun h => ?_) (fun h => next H S (.inl (by have := of_decide_eq_false h; omega)))
      have h : i ≤ j := by have := of_decide_eq_true h; omega
      obtain ⟨x, hx⟩ : ∃ x, ys[i]? = some x := get_of (by omega)
      have hIi := HasI.nat hx
      have hIa := HasI.nat hv.at_
      (repeat (first | (refine Step.go ?_; intros) | refine iteB_t (by decide) ?_ | refine iteB_f (by decide) ?_ | (refine Duo.mk (by first | omega | exact rfl | decide) ?_; intros) | (refine Duo.mk (Clo.mk (by kernel_rfl)) ?_; intros)))
      refine lessK (f := f) (v := x) (u := pv) S fun H1 nn E1 S1 hnn => ?_
      refine ⟨_, rfl, ?_⟩
      dsimp only
      rw [hnn]
      refine iteB_i (fun hlt => ?_) (fun hlt => next H1 S1 (.inr ⟨x, hx, hlt⟩))
      refine F89.L10_step ?_
      unfold F89.L10n
      rw [wr64 (by omega) (by omega), show ((i : Nat) : Int) + 1 = ((i + 1 : Nat) : Int) by omega]
      exact ihq (i + 1) j ys H1 (by omega) (by omega) hr (hv.up h hx hlt) S1
  intro i j ys H hm hr hv S
  exact ups _ i j ys H (Nat.le_refl _) hm hr hv S
theorem part1C {a b n c : Nat} {A : Addr} {xs : List Int} {pv : SE} (hb : b ≤ n) (hn : n ≤ 1000000000) :
    ∀ (m i j : Nat) (ys : List Int) (H : Heap), j + 1 - i ≤ m → RP a b xs ys → PInvC a b pv i j ys → Sat H (sl (seCC f) 39 4 (some A) n c ys :: l) → F89.L0 (some A) n c (a : Nat) cmpF (i : Nat) (j : Nat) H (PEndC (f := f) a b (some A) n c xs l) := by
  intro m
  induction m using Nat.strongRecOn with
  | ind m ihm =>
  -- the end of a round
  have exit : ∀ (i j : Nat) (ys : List Int) (H : Heap), j + 1 - i ≤ m → RP a b xs ys → PInvC a b pv i j ys → (j < i ∨ ∃ x, ys[i]? = some x ∧ seLt x pv = false) → (j < i ∨ ∃ x, ys[j]? = some x ∧ seLt x pv = true) → Sat H (sl (seCC f) 39 4 (some A) n c ys :: l) → F89.L3 (some A) n c (a : Nat) cmpF (i : Nat) (j : Nat) H (PEndC (f := f) a b (some A) n c xs l) := by
    intro i j ys H hm hr hv hsi hsj S
    have hl := (Sat.slLen S (List.mem_cons_self ..)).1
    have hai := hv.ai
    have hjb := hv.jb
    have hij2 := hv.ij
    obtain ⟨y, hy⟩ : ∃ y, ys[j]? = some y := get_of (by omega)
    have hIj := HasI.nat hy
    have hIa := HasI.nat hv.at_
    refine F89.L3_step ?_
    unfold F89.L3n
    refine iteB_i (fun h => ?_) (fun h => ?_)
    · have h : j < i := by have := of_decide_eq_true h; omega
      refine Step.go ?_
      refine Duo.mk ⟨by omega, by omega⟩ ?_
      refine Step.go ?_
      refine Duo.mk ⟨by omega, by omega⟩ ?_
      iterate 9 (refine Step.go ?_)
      refine Duo.mk ⟨by omega, by omega⟩ ?_
      refine swap_iC S hy hv.at_ fun H2 S2 => ?_
      exact ⟨j, true, _, rfl, hr.trans (RP.one ⟨by omega, by omega⟩ ⟨by omega, by omega⟩ hy hv.at_), hv.fin h hy, S2⟩
    · have h : ¬ j < i := by have := of_decide_eq_false h; omega
      obtain ⟨x, hx, hx2⟩ := hsi.resolve_left h
      obtain ⟨y', hy', hy2⟩ := hsj.resolve_left h
      rw [hy] at hy'; cases hy'
      have hne : i ≠ j := by
        intro e; subst e
        rw [hx] at hy; cases hy
        rw [hx2] at hy2; cases hy2
      have hIi := HasI.nat hx
      refine Step.go ?_
      refine Duo.mk ⟨by omega, by omega⟩ ?_
      refine Step.go ?_
      refine Duo.mk ⟨by omega, by omega⟩ ?_
      iterate 9 (refine Step.go ?_)
      refine Duo.mk ⟨by omega, by omega⟩ ?_
      refine swap_iC S hx hy fun H2 S2 => ?_
      rw [wr64 (by omega) (by omega), wr64 (by omega) (by omega), show ((i : Nat) : Int) + 1 = ((i + 1 : Nat) : Int) by omega, show ((j : Nat) : Int) - 1 = ((j - 1 : Nat) : Int) by omega]
      have hr2 := hr.trans (RP.one ⟨by omega, by omega⟩ ⟨by omega, by omega⟩ hx hy)
      have hv2 := hv.sw (by omega) hx hy hx2 hy2
      refine F89.L4_step ?_
      unfold F89.L4n
      exact part2C hb hn _ (i + 1) (j - 1) _ H2 (Nat.le_refl _) hr2 hv2 S2
  have downs : ∀ (q i j : Nat) (ys : List Int) (H : Heap), j + 1 - i ≤ q → j + 1 - i ≤ m → RP a b xs ys → PInvC a b pv i j ys → (j < i ∨ ∃ x, ys[i]? = some x ∧ seLt x pv = false) → Sat H (sl (seCC f) 39 4 (some A) n c ys :: l) → F89.L2 (some A) n c (a : Nat) cmpF (i : Nat) (j : Nat) H (PEndC (f := f) a b (some A) n c xs l) := by
    intro q
    induction q with
    | zero =>
      intro i j ys H hq hm hr hv hsi S
      refine F89.L2_step ?_
      unfold F89.L2n
      refine iteB_f (by simp; omega) ?_
      exact exit i j ys H hm hr hv hsi (.inl (by omega)) S
    | succ q ihq =>
      intro i j ys H hq hm hr hv hsi S
      have hl := (Sat.slLen S (List.mem_cons_self ..)).1
      have hai := hv.ai
      have hjb := hv.jb
      obtain ⟨y, hy⟩ : ∃ y, ys[j]? = some y := get_of (by omega)
      have hIj := HasI.nat hy
      have hIa := HasI.nat hv.at_
      refine F89.L2_step ?_
      unfold F89.L2n
      refine iteB_i (fun h => ?_) (fun h => exit i j ys H hm hr hv hsi (.inl (by have := of_decide_eq_false h; omega)) S)
      have h : i ≤ j := by have := of_decide_eq_true h; omega
      (repeat (first | (refine Step.go ?_; intros) | refine iteB_t (by decide) ?_ | refine iteB_f (by decide) ?_ | (refine Duo.mk (by first | omega | exact rfl | decide) ?_; intros) | (refine Duo.mk (Clo.mk (by kernel_rfl)) ?_; intros)))
      refine lessK (f := f) (v := y) (u := pv) S fun H1 nn E1 S1 hnn => ?_
      refine ⟨_, rfl, ?_⟩
      dsimp only
      rw [hnn]
      refine iteB_i (fun hlt => ?_) (fun hlt => exit i j ys H1 hm hr hv hsi (.inr ⟨y, hy, by simpa using hlt⟩) S1)
      have hlt : seLt y pv = false := by simpa using hlt
      refine F89.L11_step ?_
      unfold F89.L11n
      rw [wr64 (by omega) (by omega), show ((j : Nat) : Int) - 1 = ((j - 1 : Nat) : Int) by omega]
      refine ihq i (j - 1) ys H1 (by omega) (by omega) hr (hv.down h hy hlt) ?_ S1
      rcases hsi with hsi | hsi
      · exact .inl (by omega)
      · exact .inr hsi
  have ups : ∀ (q i j : Nat) (ys : List Int) (H : Heap), j + 1 - i ≤ q → j + 1 - i ≤ m → RP a b xs ys → PInvC a b pv i j ys → Sat H (sl (seCC f) 39 4 (some A) n c ys :: l) → F89.L0 (some A) n c (a : Nat) cmpF (i : Nat) (j : Nat) H (PEndC (f := f) a b (some A) n c xs l) := by
    intro q
    induction q with
    | zero =>
      intro i j ys H hq hm hr hv S
      refine F89.L0_step ?_
      unfold F89.L0n
      refine iteB_f (by simp; omega) ?_
      refine F89.L1_step ?_
      unfold F89.L1n
      exact downs _ i j ys H (Nat.le_refl _) hm hr hv (.inl (by omega)) S
    | succ q ihq =>
      intro i j ys H hq hm hr hv S
      have hl := (Sat.slLen S (List.mem_cons_self ..)).1
      have hai := hv.ai
      have hjb := hv.jb
      have next : ∀ H1, Sat H1 (sl (seCC f) 39 4 (some A) n c ys :: l) → (j < i ∨ ∃ x, ys[i]? = some x ∧ seLt x pv = false) → F89.L1 (some A) n c (a : Nat) cmpF (i : Nat) (j : Nat) H1 (PEndC (f := f) a b (some A) n c xs l) := by
        intro H1 S1 hs
        refine F89.L1_step ?_
        unfold F89.L1n
        exact downs _ i j ys H1 (Nat.le_refl _) hm hr hv hs S1
      refine F89.L0_step ?_
      unfold F89.L0n
      refine iteB_i (fun h => ?_) (fun h => next H S (.inl (by have := of_decide_eq_false h; omega)))
      have h : i ≤ j := by have := of_decide_eq_true h; omega
      obtain ⟨x, hx⟩ : ∃ x, ys[i]? = some x := get_of (by omega)
      have hIi := HasI.nat hx
      have hIa := HasI.nat hv.at_
      (repeat (first | (refine Step.go ?_; intros) | refine iteB_t (by decide) ?_ | refine iteB_f (by decide) ?_ | (refine Duo.mk (by first | omega | exact rfl | decide) ?_; intros) | (refine Duo.mk (Clo.mk (by kernel_rfl)) ?_; intros)))
      refine lessK (f := f) (v := x) (u := pv) S fun H1 nn E1 S1 hnn => ?_
      refine ⟨_, rfl, ?_⟩
      dsimp only
      rw [hnn]
      refine iteB_i (fun hlt => ?_) (fun hlt => next H1 S1 (.inr ⟨x, hx, hlt⟩))
      refine F89.L12_step ?_
      unfold F89.L12n
      rw [wr64 (by omega) (by omega), show ((i : Nat) : Int) + 1 = ((i + 1 : Nat) : Int) by omega]
      exact ihq (i + 1) j ys H1 (by omega) (by omega) hr (hv.up h hx hlt) S1
  intro i j ys H hm hr hv S
  exact ups _ i j ys H (Nat.le_refl _) hm hr hv S
theorem partition_okC {a b n c q : Nat} {p : Option Addr} {xs : List Int} (hab : a < b) (hb : b ≤ n) (hn : n ≤ 1000000000) (hq : a ≤ q ∧ q < b) (S : Sat H (sl (seCC f) 39 4 p n c xs :: l)) :
    CallsH Tryz.prog 89 ⟨[.slice p n c, .int .i64 (a : Nat), .int .i64 (b : Nat), .int .i64 (q : Nat), FV.v cmpF]⟩ H (PEndC (f := f) a b p n c xs l) := by
  have hl := (Sat.slLen S (List.mem_cons_self ..)).1
  obtain ⟨x, hx⟩ : ∃ x, xs[q]? = some x := get_of (by omega)
  obtain ⟨y, hy⟩ : ∃ y, xs[a]? = some y := get_of (by omega)
  obtain ⟨ra, oa, rfl⟩ := S.slSome (List.mem_cons_self ..) (by omega)
  have hIq := HasI.nat hx
  have hIa := HasI.nat hy
  refine F89.calls ?_
  unfold F89.go
  refine Step.go ?_
  refine Duo.mk ⟨by omega, by omega⟩ ?_
  refine Step.go ?_
  refine Duo.mk ⟨by omega, by omega⟩ ?_
  iterate 9 (refine Step.go ?_)
  refine Duo.mk ⟨by omega, by omega⟩ ?_
  refine swap_iC S hy hx fun H2 S2 => ?_
  rw [wr64 (by omega) (by omega), wr64 (by omega) (by omega), show ((a : Nat) : Int) + 1 = ((a + 1 : Nat) : Int) by omega, show ((b : Nat) : Int) - 1 = ((b - 1 : Nat) : Int) by omega]
  refine part1C (pv := x) hb hn _ (a + 1) (b - 1) _ H2 (Nat.le_refl _) (RP.one ⟨by omega, by omega⟩ ⟨by omega, by omega⟩ hy hx) ⟨?_, fun k z k1 k2 => by omega, fun k z k1 k2 => by omega, by omega, by omega, by omega⟩ S2
  rw [swp_get hy hx]
  by_cases haq : a = q
  · subst haq; rw [if_pos rfl, ← hy, hx]
  · rw [if_neg haq, if_pos rfl]
end
end Cmp
end Go.Proofs.YtobolifgehagfaaGreat

set_option linter.unusedVariables false
set_option linter.unusedSimpArgs false
set_option linter.unnecessarySimpa false
namespace Go.Proofs.YtobolifgehagfaaGreat
open Go Go.Den Go.Proofs
namespace Cmp
section
variable {f : Int → TR} {H H0 : Heap} {l : List HP}
theorem order2_okC {p : Option Addr} {n c i j sw : Nat} {s : Int} {xs : List Int} (hi : i < n) (hj : j < n) (S : Sat H (sl (seCC f) 39 4 p n c xs :: pt sw (.cells ⟨[.int .i64 s]⟩ 3) :: l)) :
    CallsH Tryz.prog 100 ⟨[.slice p n c, .int .i64 (i : Nat), .int .i64 (j : Nat), pA sw, FV.v cmpF]⟩ H (fun e H1 => ∃ (x y : Nat) (s' : Int), e = .returned (.tuple ⟨[.int .i64 (x : Nat), .int .i64 (y : Nat)]⟩) ∧ (x = i ∧ y = j ∨ x = j ∧ y = i) ∧ Sat H1 (sl (seCC f) 39 4 p n c xs :: pt sw (.cells ⟨[.int .i64 s']⟩ 3) :: l)) := by
  have hl := (Sat.slLen S (List.mem_cons_self ..)).1
  obtain ⟨x, hx⟩ : ∃ x, xs[i]? = some x := get_of (by omega)
  obtain ⟨y, hy⟩ : ∃ y, xs[j]? = some y := get_of (by omega)
  obtain ⟨ra, oa, rfl⟩ := S.slSome (List.mem_cons_self ..) (by omega)
  have hI := HasI.nat hx
  have hJ := HasI.nat hy
  refine F100.calls ?_
  unfold F100.go
  (repeat (first | (refine Step.go ?_; intros) | refine iteB_t (by decide) ?_ | refine iteB_f (by decide) ?_ | (refine Duo.mk (by first | omega | exact rfl | decide) ?_; intros) | (refine Duo.mk (Clo.mk (by kernel_rfl)) ?_; intros)))
  refine lessK (f := f) (v := y) (u := x) S fun H1 nn E1 S1 hnn => ?_
  refine ⟨_, rfl, ?_⟩
  dsimp only
  rw [hnn]
  clear S
  (repeat (first | (refine Step.go ?_; intros) | refine iteB_t (by decide) ?_ | refine iteB_f (by decide) ?_ | (refine Duo.mk (by first | omega | exact rfl | decide) ?_; intros) | (refine Duo.mk (Clo.mk (by kernel_rfl)) ?_; intros)))
  refine iteB_i (fun h => ?_) (fun h => ?_)
  · (repeat (first | (refine Step.go ?_; intros) | refine iteB_t (by decide) ?_ | refine iteB_f (by decide) ?_ | (refine Duo.mk (by first | omega | exact rfl | decide) ?_; intros) | (refine Duo.mk (Clo.mk (by kernel_rfl)) ?_; intros)))
    have S9 := ‹Sat _ _›
    exact ⟨j, i, _, rfl, .inr ⟨rfl, rfl⟩, S9⟩
  · exact ⟨i, j, s, rfl, .inl ⟨rfl, rfl⟩, S1⟩
theorem median_okC {p : Option Addr} {n c i j k sw : Nat} {s : Int} {xs : List Int} (hi : i < n) (hj : j < n) (hk : k < n) (S : Sat H (sl (seCC f) 39 4 p n c xs :: pt sw (.cells ⟨[.int .i64 s]⟩ 3) :: l)) :
    CallsH Tryz.prog 98 ⟨[.slice p n c, .int .i64 (i : Nat), .int .i64 (j : Nat), .int .i64 (k : Nat), pA sw, FV.v cmpF]⟩ H (fun e H1 => ∃ (x : Nat) (s' : Int), e = .returned (.int .i64 (x : Nat)) ∧ (x = i ∨ x = j ∨ x = k) ∧ Sat H1 (sl (seCC f) 39 4 p n c xs :: pt sw (.cells ⟨[.int .i64 s']⟩ 3) :: l)) := by
  refine F98.calls ?_
  unfold F98.go
  refine callD_i (order2_okC hi hj S) ?_
  rintro _ H1 ⟨x, y, s1, rfl, h1, S1⟩
  (repeat (first | (refine Step.go ?_; intros) | refine iteB_t (by decide) ?_ | refine iteB_f (by decide) ?_ | (refine Duo.mk (by first | omega | exact rfl | decide) ?_; intros) | (refine Duo.mk (Clo.mk (by kernel_rfl)) ?_; intros)))
  refine callD_i (order2_okC (by omega) hk S1) ?_
  rintro _ H2 ⟨x2, y2, s2, rfl, h2, S2⟩
  (repeat (first | (refine Step.go ?_; intros) | refine iteB_t (by decide) ?_ | refine iteB_f (by decide) ?_ | (refine Duo.mk (by first | omega | exact rfl | decide) ?_; intros) | (refine Duo.mk (Clo.mk (by kernel_rfl)) ?_; intros)))
  refine callD_i (order2_okC (by omega) (by omega) S2) ?_
  rintro _ H3 ⟨x3, y3, s3, rfl, h3, S3⟩
  (repeat (first | (refine Step.go ?_; intros) | refine iteB_t (by decide) ?_ | refine iteB_f (by decide) ?_ | (refine Duo.mk (by first | omega | exact rfl | decide) ?_; intros) | (refine Duo.mk (Clo.mk (by kernel_rfl)) ?_; intros)))
  exact ⟨y3, s3, rfl, by omega, S3⟩
theorem adjacent_okC {p : Option Addr} {n c i sw : Nat} {s : Int} {xs : List Int} (hn : n ≤ 1000000000) (h0 : 0 < i) (hi : i + 1 < n) (S : Sat H (sl (seCC f) 39 4 p n c xs :: pt sw (.cells ⟨[.int .i64 s]⟩ 3) :: l)) :
    CallsH Tryz.prog 97 ⟨[.slice p n c, .int .i64 (i : Nat), pA sw, FV.v cmpF]⟩ H (fun e H1 => ∃ (x : Nat) (s' : Int), e = .returned (.int .i64 (x : Nat)) ∧ (i - 1 ≤ x ∧ x ≤ i + 1) ∧ Sat H1 (sl (seCC f) 39 4 p n c xs :: pt sw (.cells ⟨[.int .i64 s']⟩ 3) :: l)) := by
  refine F97.calls ?_
  unfold F97.go
  rw [wr64 (by omega) (by omega), wr64 (by omega) (by omega), show ((i : Nat) : Int) + 1 = ((i + 1 : Nat) : Int) by omega, show ((i : Nat) : Int) - 1 = ((i - 1 : Nat) : Int) by omega]
  refine callD_i (median_okC (by omega) (by omega) (by omega) S) ?_
  rintro _ H1 ⟨x, s1, rfl, h1, S1⟩
  (repeat (first | (refine Step.go ?_; intros) | refine iteB_t (by decide) ?_ | refine iteB_f (by decide) ?_ | (refine Duo.mk (by first | omega | exact rfl | decide) ?_; intros) | (refine Duo.mk (Clo.mk (by kernel_rfl)) ?_; intros)))
  exact ⟨x, s1, rfl, by omega, S1⟩
theorem choose_okC {p : Option Addr} {n c a b : Nat} {xs : List Int} (hn : n ≤ 1000000000) (hab : a + 12 < b) (hb : b ≤ n) (S : Sat H (sl (seCC f) 39 4 p n c xs :: l)) :
    CallsH Tryz.prog 85 ⟨[.slice p n c, .int .i64 (a : Nat), .int .i64 (b : Nat), FV.v cmpF]⟩ H (fun e H1 => ∃ (x : Nat) (h : Int), e = .returned (.tuple ⟨[.int .i64 (x : Nat), .int .i64 h]⟩) ∧ (a ≤ x ∧ x < b) ∧ Sat H1 (sl (seCC f) 39 4 p n c xs :: l)) := by
  refine F85.calls ?_
  unfold F85.go
  have e0 : IntKind.wrap .i64 (((b : Nat) : Int) - ((a : Nat) : Int)) = ((b - a : Nat) : Int) := by
    rw [wr64 (by omega) (by omega)]; omega
  have e1 : IntKind.wrap .i64 (Int.tdiv ((b - a : Nat) : Int) (4 : Int)) = (((b - a) / 4 : Nat) : Int) := by
    have : Int.tdiv ((b - a : Nat) : Int) (4 : Int) = (((b - a) / 4 : Nat) : Int) := by
      rw [Int.tdiv_eq_ediv_of_nonneg (by omega)]; omega
    rw [this, wr64 (by omega) (by omega)]
  have e2 : ∀ m : Nat, m ≤ 3 → IntKind.wrap .i64 (((a : Nat) : Int) + IntKind.wrap .i64 ((((b - a) / 4 : Nat) : Int) * ((m : Nat) : Int))) = ((a + (b - a) / 4 * m : Nat) : Int) := by
    intro m hm
    have h1 : (b - a) / 4 * m ≤ (b - a) / 4 * 3 := Nat.mul_le_mul_left _ hm
    have h2 : ((((b - a) / 4 : Nat) : Int) * ((m : Nat) : Int)) = (((b - a) / 4 * m : Nat) : Int) := (Int.natCast_mul ..).symm
    have h3 : IntKind.wrap .i64 ((((b - a) / 4 * m : Nat) : Int)) = (((b - a) / 4 * m : Nat) : Int) := wr64 (by omega) (by omega)
    rw [h2, h3, wr64 (by omega) (by omega)]
    omega
  have q1 := e2 1 (by omega)
  have q2 := e2 2 (by omega)
  have q3 := e2 3 (by omega)
  rw [e0, e1]
  rw [show ((1 : Nat) : Int) = 1 from rfl] at q1
  rw [show ((2 : Nat) : Int) = 2 from rfl] at q2
  rw [show ((3 : Nat) : Int) = 3 from rfl] at q3
  rw [q1, q2, q3]
  have fin : ∀ (x sw : Nat) (s : Int) (H : Heap), (a ≤ x ∧ x < b) → Sat H (sl (seCC f) 39 4 p n c xs :: pt sw (.cells ⟨[.int .i64 s]⟩ 3) :: l) → F85.L1 sw (x : Nat) H (fun e H1 => ∃ (x : Nat) (h : Int), e = .returned (.tuple ⟨[.int .i64 (x : Nat), .int .i64 h]⟩) ∧ (a ≤ x ∧ x < b) ∧ Sat H1 (sl (seCC f) 39 4 p n c xs :: l)) := by
    intro x sw s H hx S
    refine F85.L1_step ?_
    unfold F85.L1n
    (repeat (first | (refine Step.go ?_; intros) | refine iteB_t (by decide) ?_ | refine iteB_f (by decide) ?_ | (refine Duo.mk (by first | omega | exact rfl | decide) ?_; intros) | (refine Duo.mk (Clo.mk (by kernel_rfl)) ?_; intros)))
    refine iteB_i (fun h => ⟨x, _, rfl, hx, S.to (Ent.cons (Ent.drop Ent.refl))⟩) (fun h => ?_)
    refine iteB_i (fun h => ⟨x, _, rfl, hx, S.to (Ent.cons (Ent.drop Ent.refl))⟩) (fun h => ⟨x, _, rfl, hx, S.to (Ent.cons (Ent.drop Ent.refl))⟩)
  have mid : ∀ (x y z sw : Nat) (s : Int) (H : Heap), (a ≤ x ∧ x < b) → (a ≤ y ∧ y < b) → (a ≤ z ∧ z < b) → Sat H (sl (seCC f) 39 4 p n c xs :: pt sw (.cells ⟨[.int .i64 s]⟩ 3) :: l) → F85.L0 p n c cmpF sw (x : Nat) (y : Nat) (z : Nat) H (fun e H1 => ∃ (x : Nat) (h : Int), e = .returned (.tuple ⟨[.int .i64 (x : Nat), .int .i64 h]⟩) ∧ (a ≤ x ∧ x < b) ∧ Sat H1 (sl (seCC f) 39 4 p n c xs :: l)) := by
    intro x y z sw s H hx hy hz S
    refine F85.L0_step ?_
    unfold F85.L0n
    refine callD_i (median_okC (by omega) (by omega) (by omega) S) ?_
    rintro _ H1 ⟨w, s1, rfl, h1, S1⟩
    (repeat (first | (refine Step.go ?_; intros) | refine iteB_t (by decide) ?_ | refine iteB_f (by decide) ?_ | (refine Duo.mk (by first | omega | exact rfl | decide) ?_; intros) | (refine Duo.mk (Clo.mk (by kernel_rfl)) ?_; intros)))
    exact fin w sw s1 H1 (by omega) S1
  refine Step.go ?_
  intro sw H1 S1
  have S2 : Sat H1 (sl (seCC f) 39 4 p n c xs :: pt sw (.cells ⟨[.int .i64 0]⟩ 3) :: l) := by
    refine S1.to ?_
    iterate 2 (apply Ent.pick; (focus (repeat (first | exact Sel.here | apply Sel.there))))
    exact Ent.refl
  clear S S1
  refine ⟨by decide, by decide, by decide, ?_⟩
  refine iteB_t (decide_eq_true (by omega)) ?_
  refine iteB_i (fun h => ?_) (fun h => mid _ _ _ sw 0 H1 (by omega) (by omega) (by omega) S2)
  have h := of_decide_eq_true h
  refine callD_i (adjacent_okC hn (by omega) (by omega) S2) ?_
  rintro _ H2 ⟨x, s1, rfl, h1, S3⟩
  (repeat (first | (refine Step.go ?_; intros) | refine iteB_t (by decide) ?_ | refine iteB_f (by decide) ?_ | (refine Duo.mk (by first | omega | exact rfl | decide) ?_; intros) | (refine Duo.mk (Clo.mk (by kernel_rfl)) ?_; intros)))
  refine callD_i (adjacent_okC hn (by omega) (by omega) S3) ?_
  rintro _ H3 ⟨y, s2, rfl, h2, S4⟩
  (repeat (first | (refine Step.go ?_; intros) | refine iteB_t (by decide) ?_ | refine iteB_f (by decide) ?_ | (refine Duo.mk (by first | omega | exact rfl | decide) ?_; intros) | (refine Duo.mk (Clo.mk (by kernel_rfl)) ?_; intros)))
  refine callD_i (adjacent_okC hn (by omega) (by omega) S4) ?_
  rintro _ H4 ⟨z, s3, rfl, h3, S5⟩
  (repeat (first | (refine Step.go ?_; intros) | refine iteB_t (by decide) ?_ | refine iteB_f (by decide) ?_ | (refine Duo.mk (by first | omega | exact rfl | decide) ?_; intros) | (refine Duo.mk (Clo.mk (by kernel_rfl)) ?_; intros)))
  exact mid x y z sw s3 H4 (by omega) (by omega) (by omega) S5
theorem reverse_okC {p : Option Addr} {n c a b : Nat} {xs : List Int} (hn : n ≤ 1000000000) (hab : a < b) (hb : b ≤ n) (S : Sat H (sl (seCC f) 39 4 p n c xs :: l)) :
    CallsH Tryz.prog 86 ⟨[.slice p n c, .int .i64 (a : Nat), .int .i64 (b : Nat), FV.v cmpF]⟩ H (fun e H1 => e = .returned (.tuple ⟨[]⟩) ∧ ∃ ys, RP a b xs ys ∧ Sat H1 (sl (seCC f) 39 4 p n c ys :: l)) := by
  obtain ⟨ra, oa, rfl⟩ := S.slSome (List.mem_cons_self ..) (by omega)
  refine F86.calls ?_
  unfold F86.go
  have loop : ∀ (m i j : Nat) (ys : List Int) (H : Heap), j - i ≤ m → a ≤ i → i ≤ j + 1 → j < b → RP a b xs ys → Sat H (sl (seCC f) 39 4 (some ⟨ra, oa, none⟩) n c ys :: l) → F86.L0 (some ⟨ra, oa, none⟩) n c (i : Nat) (j : Nat) H (fun e H1 => e = .returned (.tuple ⟨[]⟩) ∧ ∃ ys, RP a b xs ys ∧ Sat H1 (sl (seCC f) 39 4 (some ⟨ra, oa, none⟩) n c ys :: l)) := by
    intro m
    induction m with
    | zero =>
      intro i j ys H hm h1 h2 h3 hr S
      refine F86.L0_step ?_
      unfold F86.L0n
      refine iteB_f (by simp; omega) ?_
      exact ⟨rfl, ys, hr, S⟩
    | succ m ih =>
      intro i j ys H hm h1 h2 h3 hr S
      have hl := (Sat.slLen S (List.mem_cons_self ..)).1
      refine F86.L0_step ?_
      unfold F86.L0n
      refine iteB_i (fun h => ?_) (fun h => ⟨rfl, ys, hr, S⟩)
      have h : i < j := by have := of_decide_eq_true h; omega
      obtain ⟨x, hx⟩ : ∃ x, ys[i]? = some x := get_of (by omega)
      obtain ⟨y, hy⟩ : ∃ y, ys[j]? = some y := get_of (by omega)
      have hI := HasI.nat hx
      have hJ := HasI.nat hy
      refine Step.go ?_
      refine Duo.mk ⟨by omega, by omega⟩ ?_
      refine Step.go ?_
      refine Duo.mk ⟨by omega, by omega⟩ ?_
      iterate 9 (refine Step.go ?_)
      refine Duo.mk ⟨by omega, by omega⟩ ?_
      refine swap_iC S hx hy fun H2 S2 => ?_
      rw [wr64 (by omega) (by omega), wr64 (by omega) (by omega), show ((i : Nat) : Int) + 1 = ((i + 1 : Nat) : Int) by omega, show ((j : Nat) : Int) - 1 = ((j - 1 : Nat) : Int) by omega]
      exact ih (i + 1) (j - 1) _ H2 (by omega) (by omega) (by omega) (by omega) (hr.trans (RP.one ⟨by omega, by omega⟩ ⟨by omega, by omega⟩ hx hy)) S2
  rw [wr64 (by omega) (by omega), show ((b : Nat) : Int) - 1 = ((b - 1 : Nat) : Int) by omega]
  exact loop _ a (b - 1) xs H (Nat.le_refl _) (Nat.le_refl _) (by omega) (by omega) (.refl _) S
end
end Cmp
end Go.Proofs.YtobolifgehagfaaGreat

set_option linter.unusedVariables false
set_option linter.unusedSimpArgs false
set_option linter.unnecessarySimpa false
namespace Go.Proofs.YtobolifgehagfaaGreat
open Go Go.Den Go.Proofs
namespace Cmp
def LowC (a b : Nat) (xs : List Int) : Prop := a = 0 ∨ ∃ w, xs[a - 1]? = some w ∧ ∀ k x, a ≤ k → k < b → xs[k]? = some x → seLt w x = true
theorem LowC.rp {a b : Nat} {xs ys : List Int} (h : LowC a b xs) (r : RP a b xs ys) : LowC a b ys := by
  rcases h with h | ⟨w, h1, h2⟩
  · exact .inl h
  · by_cases ha : a = 0
    · exact .inl ha
    · refine .inr ⟨w, by rw [r.out (.inl (by omega))]; exact h1, fun k x k1 k2 k3 => ?_⟩
      obtain ⟨i, i1, i2, i3⟩ := r.mem k1 k2 k3
      exact h2 i x i1 i2 i3
theorem SoR.sw {a m i j : Nat} {xs : List Int} {x y : SE} (h : SoR seLt a m xs) (hi : xs[i]? = some x) (hj : xs[j]? = some y) (h1 : m ≤ i) (h2 : m ≤ j) : SoR seLt a m (swp xs i j x y) := by
  intro p q u v c1 c2 c3 e1 e2
  rw [swp_get hi hj, if_neg (by omega), if_neg (by omega)] at e1 e2
  exact h p q u v c1 c2 c3 e1 e2
theorem SoR.less {a m m' : Nat} {xs : List Int} (h : SoR seLt a m xs) (hm : m' ≤ m) : SoR seLt a m' xs := fun p q x y c1 c2 c3 => h p q x y c1 c2 (by omega)
theorem SoR.more {a m : Nat} {xs : List Int} {x y : SE} (hd : Dif xs) (h : SoR seLt a m xs) (ham : a < m) (hx : xs[m]? = some x) (hy : xs[m - 1]? = some y) (hlt : seLt x y = false) : SoR seLt a (m + 1) xs := by
  have hyx : seLt y x = true := by
    rcases seLin.tot x y hlt with h1 | h1
    · subst h1
      have := hd m (m - 1) x hx hy
      omega
    · exact h1
  intro p q u v c1 c2 c3 e1 e2
  by_cases hq : q = m
  · subst hq
    rw [hx] at e2; cases e2
    by_cases hp : p = q - 1
    · subst hp; rw [hy] at e1; cases e1; exact hyx
    · exact seLin.tr _ _ _ (h p (q - 1) u y c1 (by omega) (by omega) e1 hy) hyx
  · exact h p q u v c1 c2 (by omega) e1 e2
section
variable {f : Int → TR} {H H0 : Heap} {l : List HP}
def PaEndC (a b : Nat) (p : Option Addr) (n c : Nat) (xs : List Int) (l : List HP) (e : Ending) (H1 : Heap) : Prop :=
  ∃ (r : Bool) (ys : List Int), e = .returned (.bool r) ∧ RP a b xs ys ∧ (r = true → SoR seLt a b ys) ∧ Sat H1 (sl (seCC f) 39 4 p n c ys :: l)
theorem partial_okC {p : Option Addr} {n c a b : Nat} {xs : List Int} (hn : n ≤ 1000000000) (hab : a + 12 < b) (hb : b ≤ n) (hd : Dif xs) (hlow : LowC a b xs) (S : Sat H (sl (seCC f) 39 4 p n c xs :: l)) :
    CallsH Tryz.prog 87 ⟨[.slice p n c, .int .i64 (a : Nat), .int .i64 (b : Nat), FV.v cmpF]⟩ H (PaEndC (f := f) a b p n c xs l) := by
  obtain ⟨ra, oa, rfl⟩ := S.slSome (List.mem_cons_self ..) (by omega)
  refine F87.calls ?_
  unfold F87.go
  have e0 : IntKind.wrap .i64 (((b : Nat) : Int) - ((a : Nat) : Int)) = ((b - a : Nat) : Int) := by
    rw [wr64 (by omega) (by omega)]; omega
  -- rounds left
  have rounds : ∀ (k t i : Nat) (ys : List Int) (H : Heap), t + k = 5 → a < i → i ≤ b → RP a b xs ys → SoR seLt a i ys → Sat H (sl (seCC f) 39 4 (some ⟨ra, oa, none⟩) n c ys :: l) →
      F87.L0 (some ⟨ra, oa, none⟩) n c (a : Nat) (b : Nat) cmpF (i : Nat) (t : Nat) H (PaEndC (f := f) a b (some ⟨ra, oa, none⟩) n c xs l) := by
    intro k
    induction k with
    | zero =>
      intro t i ys H ht hai hib hr hs S
      refine F87.L0_step ?_
      unfold F87.L0n
      refine iteB_f (by simp; omega) ?_
      exact ⟨false, ys, rfl, hr, (fun h => by cases h), S⟩
    | succ k ih =>
      intro t i ys H ht hai hib hr hs S
      refine F87.L0_step ?_
      unfold F87.L0n
      refine iteB_t (by simp; omega) ?_
      -- the end of a round
      have l6 : ∀ (i : Nat) (ys : List Int) (H : Heap), a < i → i ≤ b → RP a b xs ys → SoR seLt a i ys → Sat H (sl (seCC f) 39 4 (some ⟨ra, oa, none⟩) n c ys :: l) → F87.L6 (some ⟨ra, oa, none⟩) n c (a : Nat) (b : Nat) cmpF (i : Nat) (t : Nat) H (PaEndC (f := f) a b (some ⟨ra, oa, none⟩) n c xs l) := by
        intro i ys H hai hib hr hs S
        refine F87.L6_step ?_
        unfold F87.L6n
        rw [wr64 (by omega) (by omega), show ((t : Nat) : Int) + 1 = ((t + 1 : Nat) : Int) by omega]
        exact ih (t + 1) i ys H (by omega) hai hib hr hs S
      -- to the right
      have l5 : ∀ (q j i : Nat) (ys : List Int) (H : Heap), b - j ≤ q → a < i → i < j → j ≤ b → RP a b xs ys → SoR seLt a i ys → Sat H (sl (seCC f) 39 4 (some ⟨ra, oa, none⟩) n c ys :: l) → F87.L5 (some ⟨ra, oa, none⟩) n c (a : Nat) (b : Nat) cmpF (i : Nat) (t : Nat) (j : Nat) H (PaEndC (f := f) a b (some ⟨ra, oa, none⟩) n c xs l) := by
        intro q
        induction q with
        | zero =>
          intro j i ys H hq hai hij hjb hr hs S
          refine F87.L5_step ?_
          unfold F87.L5n
          refine iteB_f (by simp; omega) ?_
          exact l6 i ys H hai (by omega) hr hs S
        | succ q ihq =>
          intro j i ys H hq hai hij hjb hr hs S
          have hl := (Sat.slLen S (List.mem_cons_self ..)).1
          refine F87.L5_step ?_
          unfold F87.L5n
          refine iteB_i (fun h => ?_) (fun h => l6 i ys H hai (by omega) hr hs S)
          have h : j < b := by have := of_decide_eq_true h; omega
          obtain ⟨v, hv⟩ : ∃ v, ys[j]? = some v := get_of (by omega)
          obtain ⟨u, hu⟩ : ∃ u, ys[j - 1]? = some u := get_of (by omega)
          have hI := HasI.nat hv
          have hJ := HasI.nat hu
          have eI : IntKind.wrap .i64 (((j : Nat) : Int) - (1 : Int)) = ((j - 1 : Nat) : Int) := by
            rw [wr64 (by omega) (by omega)]; omega
          rw [eI]
          (repeat (first | (refine Step.go ?_; intros) | refine iteB_t (by decide) ?_ | refine iteB_f (by decide) ?_ | (refine Duo.mk (by first | omega | exact rfl | decide) ?_; intros) | (refine Duo.mk (Clo.mk (by kernel_rfl)) ?_; intros)))
          refine lessK (f := f) (v := v) (u := u) S fun H1 nn E1 S1 hnn => ?_
          refine ⟨_, rfl, ?_⟩
          dsimp only
          rw [hnn]
          refine iteB_i (fun hlt => l6 i ys H1 hai (by omega) hr hs S1) (fun hlt => ?_)
          clear S
          refine Step.go ?_
          refine Duo.mk ⟨by omega, by omega⟩ ?_
          refine Step.go ?_
          refine Duo.mk ⟨by omega, by omega⟩ ?_
          iterate 9 (refine Step.go ?_)
          refine Duo.mk ⟨by omega, by omega⟩ ?_
          refine swap_iC S1 hv hu fun H2 S2 => ?_
          rw [wr64 (by omega) (by omega), show ((j : Nat) : Int) + 1 = ((j + 1 : Nat) : Int) by omega]
          exact ihq (j + 1) i _ H2 (by omega) hai (by omega) (by omega) (hr.trans (RP.one ⟨by omega, by omega⟩ ⟨by omega, by omega⟩ hv hu)) (SoR.sw hs hv hu (by omega) (by omega)) S2
      have l4 : ∀ (i : Nat) (ys : List Int) (H : Heap), a < i → i < b → RP a b xs ys → SoR seLt a i ys → Sat H (sl (seCC f) 39 4 (some ⟨ra, oa, none⟩) n c ys :: l) → F87.L4 (some ⟨ra, oa, none⟩) n c (a : Nat) (b : Nat) cmpF (i : Nat) (t : Nat) H (PaEndC (f := f) a b (some ⟨ra, oa, none⟩) n c xs l) := by
        intro i ys H hai hib hr hs S
        refine F87.L4_step ?_
        unfold F87.L4n
        refine iteB_i (fun h => ?_) (fun h => l6 i ys H hai (by omega) hr hs S)
        rw [wr64 (by omega) (by omega), show ((i : Nat) : Int) + 1 = ((i + 1 : Nat) : Int) by omega]
        exact l5 _ (i + 1) i ys H (Nat.le_refl _) hai (by omega) (by omega) hr hs S
      -- to the left
      have l3 : ∀ (j i : Nat) (ys : List Int) (H : Heap), a ≤ j → j + 1 ≤ i → i < b → RP a b xs ys → InsInv seLt a (i - 1) j ys → Sat H (sl (seCC f) 39 4 (some ⟨ra, oa, none⟩) n c ys :: l) → F87.L3 (some ⟨ra, oa, none⟩) n c (a : Nat) (b : Nat) cmpF (i : Nat) (t : Nat) (j : Nat) H (PaEndC (f := f) a b (some ⟨ra, oa, none⟩) n c xs l) := by
        intro j
        induction j with
        | zero =>
          intro i ys H haj hji hib hr hv S
          have hl := (Sat.slLen S (List.mem_cons_self ..)).1
          refine F87.L3_step ?_
          unfold F87.L3n
          refine iteB_f (by simp) ?_
          have hs := hv.done seLin (hr.dif hd) ⟨haj, by omega⟩ (by omega) (.inl (by omega))
          rw [show i - 1 + 1 = i by omega] at hs
          exact l4 i ys H (by omega) hib hr hs S
        | succ j ihj =>
          intro i ys H haj hji hib hr hv S
          have hl := (Sat.slLen S (List.mem_cons_self ..)).1
          obtain ⟨v, hv1⟩ : ∃ v, ys[j + 1]? = some v := get_of (by omega)
          obtain ⟨u, hu1⟩ : ∃ u, ys[j]? = some u := get_of (by omega)
          have hI := HasI.nat hv1
          have hJ := HasI.nat hu1
          have eI : IntKind.wrap .i64 (((j + 1 : Nat) : Int) - (1 : Int)) = ((j : Nat) : Int) := by
            rw [wr64 (by omega) (by omega)]; omega
          refine F87.L3_step ?_
          unfold F87.L3n
          refine iteB_t (by simp; omega) ?_
          rw [eI]
          (repeat (first | (refine Step.go ?_; intros) | refine iteB_t (by decide) ?_ | refine iteB_f (by decide) ?_ | (refine Duo.mk (by first | omega | exact rfl | decide) ?_; intros) | (refine Duo.mk (Clo.mk (by kernel_rfl)) ?_; intros)))
          refine lessK (f := f) (v := v) (u := u) S fun H1 nn E1 S1 hnn => ?_
          refine ⟨_, rfl, ?_⟩
          dsimp only
          rw [hnn]
          refine iteB_i (fun hlt => ?_) (fun hlt => ?_)
          · have hlt : seLt v u = false := by simpa using hlt
            have hs := hv.done seLin (hr.dif hd) ⟨haj, by omega⟩ (by omega) (.inr ⟨v, u, hv1, hu1, hlt⟩)
            rw [show i - 1 + 1 = i by omega] at hs
            exact l4 i ys H1 (by omega) hib hr hs S1
          · have hlt : seLt v u = true := by simpa using hlt
            have haj2 : a ≤ j := by
              rcases Nat.lt_or_ge j a with hlt2 | hge
              · exfalso
                obtain rfl : a = j + 1 := by omega
                rcases hlow.rp hr with h0 | ⟨w, h1, h2⟩
                · omega
                · rw [show j + 1 - 1 = j by omega, hu1] at h1
                  cases h1
                  have h3 := h2 (j + 1) v (Nat.le_refl _) (by omega) hv1
                  have h4 := seLin.tr _ _ _ hlt h3
                  rw [seLin.irr] at h4; cases h4
              · exact hge
            clear S
            refine Step.go ?_
            refine Duo.mk ⟨by omega, by omega⟩ ?_
            refine Step.go ?_
            refine Duo.mk ⟨by omega, by omega⟩ ?_
            iterate 9 (refine Step.go ?_)
            refine Duo.mk ⟨by omega, by omega⟩ ?_
            refine swap_iC S1 hv1 hu1 fun H2 S2 => ?_
            exact ihj i _ H2 haj2 (by omega) hib (hr.trans (RP.one ⟨by omega, by omega⟩ ⟨by omega, by omega⟩ hv1 hu1)) (hv.step (j := j + 1) (by omega) (by omega) hv1 hu1 hlt) S2
      have l2 : ∀ (i : Nat) (ys : List Int) (H : Heap), a < i → i ≤ b → RP a b xs ys → SoR seLt a i ys → Sat H (sl (seCC f) 39 4 (some ⟨ra, oa, none⟩) n c ys :: l) → F87.L2 (some ⟨ra, oa, none⟩) n c (a : Nat) (b : Nat) cmpF (i : Nat) (t : Nat) H (PaEndC (f := f) a b (some ⟨ra, oa, none⟩) n c xs l) := by
        intro i ys H hai hib hr hs S
        have hl := (Sat.slLen S (List.mem_cons_self ..)).1
        refine F87.L2_step ?_
        unfold F87.L2n
        refine iteB_i (fun h => ?_) (fun h => ?_)
        · have h : i = b := by have := eq_of_beq h; omega
          subst h
          exact ⟨true, ys, rfl, hr, fun _ => hs, S⟩
        have h : i ≠ b := by
          intro e; subst e; simp at h
        refine iteB_i (fun h => ⟨false, ys, rfl, hr, (fun h => by cases h), S⟩) (fun _ => ?_)
        obtain ⟨v, hv1⟩ : ∃ v, ys[i]? = some v := get_of (by omega)
        obtain ⟨u, hu1⟩ : ∃ u, ys[i - 1]? = some u := get_of (by omega)
        have hI := HasI.nat hv1
        have hJ := HasI.nat hu1
        have eI : IntKind.wrap .i64 (((i : Nat) : Int) - (1 : Int)) = ((i - 1 : Nat) : Int) := by
          rw [wr64 (by omega) (by omega)]; omega
        rw [eI]
        refine Step.go ?_
        refine Duo.mk ⟨by omega, by omega⟩ ?_
        refine Step.go ?_
        refine Duo.mk ⟨by omega, by omega⟩ ?_
        iterate 9 (refine Step.go ?_)
        refine Duo.mk ⟨by omega, by omega⟩ ?_
        refine swap_iC S hv1 hu1 fun H2 S2 => ?_
        have hr2 := hr.trans (RP.one ⟨by omega, by omega⟩ ⟨by omega, by omega⟩ hv1 hu1)
        have hs2 : SoR seLt a (i - 1) (swp ys i (i - 1) v u) := SoR.sw (SoR.less hs (by omega)) hv1 hu1 (by omega) (by omega)
        refine iteB_i (fun h2 => ?_) (fun h2 => ?_)
        · exact l3 (i - 1) i _ H2 (by omega) (by omega) (by omega) hr2 (InsInv.start hs2) S2
        · have h2 : i = a + 1 := by
            have h2 := of_decide_eq_false h2
            rw [wr64 (by omega) (by omega)] at h2
            omega
          refine l4 i _ H2 hai (by omega) hr2 (fun p q x y c1 c2 c3 => by omega) S2
      have l1 : ∀ (q i : Nat) (ys : List Int) (H : Heap), b - i ≤ q → a < i → i ≤ b → RP a b xs ys → SoR seLt a i ys → Sat H (sl (seCC f) 39 4 (some ⟨ra, oa, none⟩) n c ys :: l) → F87.L1 (some ⟨ra, oa, none⟩) n c (a : Nat) (b : Nat) cmpF (i : Nat) (t : Nat) H (PaEndC (f := f) a b (some ⟨ra, oa, none⟩) n c xs l) := by
        intro q
        induction q with
        | zero =>
          intro i ys H hq hai hib hr hs S
          refine F87.L1_step ?_
          unfold F87.L1n
          refine iteB_f (by simp; omega) ?_
          exact l2 i ys H hai hib hr hs S
        | succ q ihq =>
          intro i ys H hq hai hib hr hs S
          have hl := (Sat.slLen S (List.mem_cons_self ..)).1
          refine F87.L1_step ?_
          unfold F87.L1n
          refine iteB_i (fun h => ?_) (fun h => l2 i ys H hai hib hr hs S)
          have h : i < b := by have := of_decide_eq_true h; omega
          obtain ⟨v, hv1⟩ : ∃ v, ys[i]? = some v := get_of (by omega)
          obtain ⟨u, hu1⟩ : ∃ u, ys[i - 1]? = some u := get_of (by omega)
          have hI := HasI.nat hv1
          have hJ := HasI.nat hu1
          have eI : IntKind.wrap .i64 (((i : Nat) : Int) - (1 : Int)) = ((i - 1 : Nat) : Int) := by
            rw [wr64 (by omega) (by omega)]; omega
          rw [eI]
          (repeat (first | (refine Step.go ?_; intros) | refine iteB_t (by decide) ?_ | refine iteB_f (by decide) ?_ | (refine Duo.mk (by first | omega | exact rfl | decide) ?_; intros) | (refine Duo.mk (Clo.mk (by kernel_rfl)) ?_; intros)))
          refine lessK (f := f) (v := v) (u := u) S fun H1 nn E1 S1 hnn => ?_
          refine ⟨_, rfl, ?_⟩
          dsimp only
          rw [hnn]
          refine iteB_i (fun hlt => ?_) (fun hlt => l2 i ys H1 hai hib hr hs S1)
          have hlt : seLt v u = false := by simpa using hlt
          refine F87.L7_step ?_
          unfold F87.L7n
          rw [wr64 (by omega) (by omega), show ((i : Nat) : Int) + 1 = ((i + 1 : Nat) : Int) by omega]
          exact ihq (i + 1) ys H1 (by omega) (by omega) (by omega) hr (SoR.more (hr.dif hd) hs hai hv1 hu1 hlt) S1
      exact l1 _ i ys H (Nat.le_refl _) hai hib hr hs ‹_›
  rw [wr64 (by omega) (by omega), show ((a : Nat) : Int) + 1 = ((a + 1 : Nat) : Int) by omega]
  exact rounds 5 0 (a + 1) xs H (by omega) (by omega) (by omega) (.refl _) (fun p q x y c1 c2 c3 => by omega) S
end
end Cmp
end Go.Proofs.YtobolifgehagfaaGreat

set_option linter.unusedVariables false
set_option linter.unusedSimpArgs false
set_option linter.unnecessarySimpa false
namespace Go.Proofs.YtobolifgehagfaaGreat
open Go Go.Den Go.Proofs
namespace Cmp
def okLenC (x : Nat) : Bool := match (ByteArray.mk #[0, 1, 2, 2, 3, 3, 3, 3, 4, 4, 4, 4, 4, 4, 4, 4, 5, 5, 5, 5, 5, 5, 5, 5, 5, 5, 5, 5, 5, 5, 5, 5, 6, 6, 6, 6, 6, 6, 6, 6, 6, 6, 6, 6, 6, 6, 6, 6, 6, 6, 6, 6, 6, 6, 6, 6, 6, 6, 6, 6, 6, 6, 6, 6, 7, 7, 7, 7, 7, 7, 7, 7, 7, 7, 7, 7, 7, 7, 7, 7, 7, 7, 7, 7, 7, 7, 7, 7, 7, 7, 7, 7, 7, 7, 7, 7, 7, 7, 7, 7, 7, 7, 7, 7, 7, 7, 7, 7, 7, 7, 7, 7, 7, 7, 7, 7, 7, 7, 7, 7, 7, 7, 7, 7, 7, 7, 7, 7, 8, 8, 8, 8, 8, 8, 8, 8, 8, 8, 8, 8, 8, 8, 8, 8, 8, 8, 8, 8, 8, 8, 8, 8, 8, 8, 8, 8, 8, 8, 8, 8, 8, 8, 8, 8, 8, 8, 8, 8, 8, 8, 8, 8, 8, 8, 8, 8, 8, 8, 8, 8, 8, 8, 8, 8, 8, 8, 8, 8, 8, 8, 8, 8, 8, 8, 8, 8, 8, 8, 8, 8, 8, 8, 8, 8, 8, 8, 8, 8, 8, 8, 8, 8, 8, 8, 8, 8, 8, 8, 8, 8, 8, 8, 8, 8, 8, 8, 8, 8, 8, 8, 8, 8, 8, 8, 8, 8, 8, 8, 8, 8, 8, 8, 8, 8, 8, 8, 8, 8, 8, 8, 8, 8, 8, 8, 8, 8])[x]? with | some b => Nat.ble b.toNat 8 && Nat.ble 1 (2 ^ b.toNat) && (Nat.beq x 0 || Nat.ble (2 ^ b.toNat) (2 * x)) | none => false
theorem len_allC : (List.range 256).all okLenC = true := by kernel_rfl
theorem andZ_leC {a b : Int} (h0 : 0 ≤ b) (h1 : b < 18446744073709551616) : 0 ≤ andZ .u64 a b ∧ andZ .u64 a b ≤ b := by
  unfold andZ
  have e1 : (BitVec.ofInt (IntKind.bits .u64) b).toNat = b.toNat := by
    show (BitVec.ofInt 64 b).toNat = b.toNat
    rw [BitVec.toNat_ofInt]
    congr 1
    exact Int.emod_eq_of_lt h0 h1
  have h2 : (BitVec.ofInt (IntKind.bits .u64) a &&& BitVec.ofInt (IntKind.bits .u64) b).toNat ≤ b.toNat := by
    rw [BitVec.toNat_and, e1]
    exact Nat.and_le_right
  rw [wrU64 (by omega) (by omega)]
  omega
section
variable {f : Int → TR} {H H0 : Heap} {l : List HP}
theorem len64_okC {x : Nat} (hx : x < 256) (h0 : 0 < x) : CallsH Tryz.prog 79 ⟨[.int .u64 (x : Nat)]⟩ H (fun e H1 => ExtH H H1 ∧ ∃ k : Nat, e = .returned (.int .i64 (k : Nat)) ∧ k ≤ 8 ∧ 2 ^ k ≤ 2 * x) := by
  have hk := List.all_eq_true.1 len_allC x (List.mem_range.2 hx)
  unfold okLenC at hk
  split at hk
  · rename_i b hb
    simp only [Bool.and_eq_true, Bool.or_eq_true] at hk
    obtain ⟨⟨k1, k2⟩, k3⟩ := hk
    refine F79.calls ?_
    unfold F79.go
    refine iteB_f (decide_eq_false (by omega)) ?_
    refine F79.L0_step ?_
    unfold F79.L0n
    refine iteB_f (decide_eq_false (by omega)) ?_
    refine F79.L1_step ?_
    unfold F79.L1n
    refine iteB_f (decide_eq_false (by omega)) ?_
    refine F79.L2_step ?_
    unfold F79.L2n
    have ew : IntKind.wrap .u8 ((x : Nat) : Int) = ((x : Nat) : Int) := wrU8 (by omega) (by omega)
    rw [ew]
    refine ⟨by omega, b, by rw [Int.toNat_natCast]; exact hb, ?_⟩
    have hb8 : b.toNat ≤ 8 := Nat.le_of_ble_eq_true k1
    have e1 : IntKind.wrap .i64 ((b.toNat : Nat) : Int) = ((b.toNat : Nat) : Int) := wr64 (by omega) (by omega)
    have e2 : IntKind.wrap .i64 ((0 : Int) + IntKind.wrap .i64 ((b.toNat : Nat) : Int)) = ((b.toNat : Nat) : Int) := by
      rw [e1, Int.zero_add, e1]
    dsimp only
    rw [e2]
    refine ⟨ExtH.refl _, b.toNat, rfl, hb8, ?_⟩
    rcases k3 with k3 | k3
    · have := Nat.eq_of_beq_eq_true k3; omega
    · exact Nat.le_of_ble_eq_true k3
  · cases hk
end
end Cmp
end Go.Proofs.YtobolifgehagfaaGreat

set_option linter.unusedVariables false
set_option linter.unusedSimpArgs false
set_option linter.unnecessarySimpa false
namespace Go.Proofs.YtobolifgehagfaaGreat
open Go Go.Den Go.Proofs
namespace Cmp
section
variable {f : Int → TR} {H H0 : Heap} {l : List HP}
theorem next_okC {r : Nat} {s : Int} (S : Sat H (pt r (.cells ⟨[.int .u64 s]⟩ 182) :: l)) : CallsH Tryz.prog 92 ⟨[pA r]⟩ H (fun e H1 => ∃ v s' : Int, e = .returned (.int .u64 v) ∧ Sat H1 (pt r (.cells ⟨[.int .u64 s']⟩ 182) :: l)) := by
  refine F92.calls ?_
  unfold F92.go
  (repeat (first | (refine Step.go ?_; intros) | refine iteB_t (by decide) ?_ | refine iteB_f (by decide) ?_ | (refine Duo.mk (by first | omega | exact rfl | decide) ?_; intros) | (refine Duo.mk (Clo.mk (by kernel_rfl)) ?_; intros)))
  have S9 := ‹Sat _ _›
  exact ⟨_, _, rfl, S9⟩
theorem pow_okC {x : Nat} (hx : x < 256) (h0 : 0 < x) : CallsH Tryz.prog 91 ⟨[.int .i64 (x : Nat)]⟩ H (fun e H1 => ExtH H H1 ∧ ∃ m : Nat, e = .returned (.int .u64 (m : Nat)) ∧ 1 ≤ m ∧ m ≤ 2 * x) := by
  refine F91.calls ?_
  unfold F91.go
  rw [wrU64 (by omega) (by omega)]
  have h : CallsH Tryz.prog 58 ⟨[.int .u64 (x : Nat)]⟩ H (fun e H1 => ExtH H H1 ∧ ∃ k : Nat, e = .returned (.int .i64 (k : Nat)) ∧ k ≤ 8 ∧ 2 ^ k ≤ 2 * x) := by
    refine F58.calls ?_
    unfold F58.go
    refine callD_i (len64_okC hx h0) ?_
    rintro _ H1 ⟨E1, k, rfl, h1, h2⟩
    refine tInt_i ?_
    exact ⟨E1, k, rfl, h1, h2⟩
  refine callD_i h ?_
  rintro _ H1 ⟨E1, k, rfl, h1, h2⟩
  refine tInt_i ?_
  refine ⟨by omega, ?_⟩
  have e : shlZ .u64 (1 : Int) ((k : Nat) : Int) = ((2 ^ k : Nat) : Int) := by
    unfold shlZ
    have : min ((k : Nat) : Int).toNat (IntKind.bits .u64) = k := by
      rw [Int.toNat_natCast]
      exact Nat.min_eq_left (by show k ≤ 64; omega)
    rw [this, Int.one_mul]
    have e : ((2 : Int) ^ k) = ((2 ^ k : Nat) : Int) := by simp
    rw [e]
    have h3 : (1 : Nat) ≤ 2 ^ k := Nat.one_le_two_pow
    generalize (2 : Nat) ^ k = m at h2 h3 ⊢
    exact wrU64 (by omega) (by omega)
  rw [e]
  exact ⟨E1, 2 ^ k, rfl, Nat.one_le_two_pow, h2⟩
theorem break_okC {p : Option Addr} {n c a b : Nat} {xs : List Int} (hn : n ≤ 255) (hab : a + 12 < b) (hb : b ≤ n) (S : Sat H (sl (seCC f) 39 4 p n c xs :: l)) :
    CallsH Tryz.prog 84 ⟨[.slice p n c, .int .i64 (a : Nat), .int .i64 (b : Nat), FV.v cmpF]⟩ H (fun e H1 => e = .returned (.tuple ⟨[]⟩) ∧ ∃ ys, RP a b xs ys ∧ Sat H1 (sl (seCC f) 39 4 p n c ys :: l)) := by
  obtain ⟨ra, oa, rfl⟩ := S.slSome (List.mem_cons_self ..) (by omega)
  refine F84.calls ?_
  unfold F84.go
  have e0 : IntKind.wrap .i64 (((b : Nat) : Int) - ((a : Nat) : Int)) = ((b - a : Nat) : Int) := by
    rw [wr64 (by omega) (by omega)]; omega
  rw [e0]
  refine iteB_t (decide_eq_true (by omega)) ?_
  refine Step.go ?_
  intro r H1 S1
  clear S
  refine Step.go ?_
  intro H2 S2
  clear S1
  refine callD_i (pow_okC (x := b - a) (by omega) (by omega)) ?_
  rintro _ H3 ⟨E3, m, rfl, hm1, hm2⟩
  have S3 := S2.ext E3
  clear S2
  refine tInt_i ?_
  have e1 : IntKind.wrap .i64 (Int.tdiv ((b - a : Nat) : Int) (4 : Int)) = (((b - a) / 4 : Nat) : Int) := by
    have : Int.tdiv ((b - a : Nat) : Int) (4 : Int) = (((b - a) / 4 : Nat) : Int) := by
      rw [Int.tdiv_eq_ediv_of_nonneg (by omega)]; omega
    rw [this, wr64 (by omega) (by omega)]
  have e2 : IntKind.wrap .i64 ((((b - a) / 4 : Nat) : Int) * (2 : Int)) = (((b - a) / 4 * 2 : Nat) : Int) := by
    rw [wr64 (by omega) (by omega)]; omega
  have e3 : IntKind.wrap .i64 (((a : Nat) : Int) + (((b - a) / 4 * 2 : Nat) : Int)) = ((a + (b - a) / 4 * 2 : Nat) : Int) := by
    rw [wr64 (by omega) (by omega)]; omega
  have e4 : IntKind.wrap .i64 (((a + (b - a) / 4 * 2 : Nat) : Int) - (1 : Int)) = ((a + (b - a) / 4 * 2 - 1 : Nat) : Int) := by
    rw [wr64 (by omega) (by omega)]; omega
  have e5 : IntKind.wrap .i64 (((a + (b - a) / 4 * 2 : Nat) : Int) + (1 : Int)) = ((a + (b - a) / 4 * 2 + 1 : Nat) : Int) := by
    rw [wr64 (by omega) (by omega)]; omega
  rw [e1, e2, e3, e4]
  have loop : ∀ (k i : Nat) (s : Int) (ys : List Int) (H : Heap), i + k = a + (b - a) / 4 * 2 + 2 → a ≤ i → RP a b xs ys → Sat H (pt r (.cells ⟨[.int .u64 s]⟩ 182) :: sl (seCC f) 39 4 (some ⟨ra, oa, none⟩) n c ys :: l) →
      F84.L0 (some ⟨ra, oa, none⟩) n c (a : Nat) ((b - a : Nat) : Int) r (m : Nat) (i : Nat) H (fun e H1 => e = .returned (.tuple ⟨[]⟩) ∧ ∃ ys, RP a b xs ys ∧ Sat H1 (sl (seCC f) 39 4 (some ⟨ra, oa, none⟩) n c ys :: l)) := by
    intro k
    induction k with
    | zero =>
      intro i s ys H hi hai hr S
      refine F84.L0_step ?_
      unfold F84.L0n
      rw [e1, e2, e3, e5]
      refine ⟨by decide, ?_⟩
      refine iteB_f (decide_eq_false (by omega)) ?_
      exact ⟨rfl, ys, hr, S.to (Ent.drop Ent.refl)⟩
    | succ k ih =>
      intro i s ys H hi hai hr S
      refine F84.L0_step ?_
      unfold F84.L0n
      rw [e1, e2, e3, e5]
      refine ⟨by decide, ?_⟩
      refine iteB_t (decide_eq_true (by omega)) ?_
      refine callD_i (next_okC S) ?_
      rintro _ H1 ⟨v, s', rfl, S1⟩
      clear S
      refine tInt_i ?_
      have em : IntKind.wrap .u64 (((m : Nat) : Int) - (1 : Int)) = ((m - 1 : Nat) : Int) := by
        rw [wrU64 (by omega) (by omega)]; omega
      rw [em]
      obtain ⟨z1, z2⟩ := andZ_leC (a := v) (b := ((m - 1 : Nat) : Int)) (by omega) (by omega)
      obtain ⟨o, ho⟩ : ∃ o : Nat, andZ .u64 v ((m - 1 : Nat) : Int) = (o : Int) := ⟨(andZ .u64 v ((m - 1 : Nat) : Int)).toNat, by omega⟩
      rw [ho] at z1 z2 ⊢
      have eo : IntKind.wrap .i64 ((o : Nat) : Int) = ((o : Nat) : Int) := wr64 (by omega) (by omega)
      rw [eo]
      have last : ∀ (o : Nat) (H : Heap), o < b - a → Sat H (pt r (.cells ⟨[.int .u64 s']⟩ 182) :: sl (seCC f) 39 4 (some ⟨ra, oa, none⟩) n c ys :: l) → F84.L1 (some ⟨ra, oa, none⟩) n c (a : Nat) ((b - a : Nat) : Int) r (m : Nat) (i : Nat) (o : Nat) H (fun e H1 => e = .returned (.tuple ⟨[]⟩) ∧ ∃ ys, RP a b xs ys ∧ Sat H1 (sl (seCC f) 39 4 (some ⟨ra, oa, none⟩) n c ys :: l)) := by
        intro o H ho S
        have hl := (Sat.slLen S (List.mem_cons_of_mem _ (List.mem_cons_self ..))).1
        obtain ⟨x, hx⟩ : ∃ x, ys[i]? = some x := get_of (by omega)
        obtain ⟨y, hy⟩ : ∃ y, ys[a + o]? = some y := get_of (by omega)
        have hI := HasI.nat hx
        have hJ := HasI.nat hy
        have ea : IntKind.wrap .i64 (((a : Nat) : Int) + ((o : Nat) : Int)) = ((a + o : Nat) : Int) := by
          rw [wr64 (by omega) (by omega)]; omega
        have S2 : Sat H (sl (seCC f) 39 4 (some ⟨ra, oa, none⟩) n c ys :: pt r (.cells ⟨[.int .u64 s']⟩ 182) :: l) := by
          refine S.to ?_
          iterate 2 (apply Ent.pick; (focus (repeat (first | exact Sel.here | apply Sel.there))))
          exact Ent.refl
        clear S
        refine F84.L1_step ?_
        unfold F84.L1n
        rw [ea]
        refine Step.go ?_
        refine Duo.mk ⟨by omega, by omega⟩ ?_
        refine Step.go ?_
        refine Duo.mk ⟨by omega, by omega⟩ ?_
        iterate 9 (refine Step.go ?_)
        refine Duo.mk ⟨by omega, by omega⟩ ?_
        refine swap_iC S2 hx hy fun H3 S4 => ?_
        rw [wr64 (by omega) (by omega), show ((i : Nat) : Int) + 1 = ((i + 1 : Nat) : Int) by omega]
        refine ih (i + 1) s' _ H3 (by omega) (by omega) (hr.trans (RP.one ⟨by omega, by omega⟩ ⟨by omega, by omega⟩ hx hy)) (S4.to ?_)
        iterate 2 (apply Ent.pick; (focus (repeat (first | exact Sel.here | apply Sel.there))))
        exact Ent.refl
      refine iteB_i (fun h => ?_) (fun h => ?_)
      · have h := of_decide_eq_true h
        have eo2 : IntKind.wrap .i64 (((o : Nat) : Int) - ((b - a : Nat) : Int)) = ((o - (b - a) : Nat) : Int) := by
          rw [wr64 (by omega) (by omega)]; omega
        rw [eo2]
        exact last (o - (b - a)) H1 (by omega) S1
      · have h := of_decide_eq_false h
        exact last o H1 (by omega) S1
  refine ⟨by decide, ?_⟩
  exact loop 3 (a + (b - a) / 4 * 2 - 1) _ xs H3 (by omega) (by omega) (.refl _) S3
end
end Cmp
end Go.Proofs.YtobolifgehagfaaGreat

set_option linter.unusedVariables false
set_option linter.unusedSimpArgs false
set_option linter.unnecessarySimpa false
namespace Go.Proofs.YtobolifgehagfaaGreat
open Go Go.Den Go.Proofs
namespace Cmp
def HeapSortsC (f : Int → TR) : Prop := ∀ {H : Heap} {l : List HP} {p : Option Addr} {n c a b : Nat} {xs : List Int}, n ≤ 255 → a + 12 < b → b ≤ n → Dif xs → Sat H (sl (seCC f) 39 4 p n c xs :: l) →
    CallsH Tryz.prog 83 ⟨[.slice p n c, .int .i64 (a : Nat), .int .i64 (b : Nat), FV.v cmpF]⟩ H (fun e H1 => e = .returned (.tuple ⟨[]⟩) ∧ ∃ ys, RP a b xs ys ∧ SoR seLt a b ys ∧ Sat H1 (sl (seCC f) 39 4 p n c ys :: l))
theorem joinedC {a b mid : Nat} {zs ws vs : List Int} (hd : Dif zs) (hp : PartedC a b mid zs) (r1 : RP a mid zs ws) (s1 : SoR seLt a mid ws) (r2 : RP (mid + 1) b ws vs) (s2 : SoR seLt (mid + 1) b vs) : SoR seLt a b vs := by
  obtain ⟨p1, p2, pv, h1, h2, h3⟩ := hp
  have hpv : vs[mid]? = some pv := by rw [r2.out (.inl (by omega)), r1.out (.inr (by omega))]; exact h1
  have left : ∀ k x, a ≤ k → k < mid → vs[k]? = some x → seLt x pv = true := by
    intro k x k1 k2 e
    rw [r2.out (.inl (by omega))] at e
    obtain ⟨i, i1, i2, i3⟩ := r1.mem k1 k2 e
    exact h2 i x i1 i2 i3
  have right : ∀ k x, mid < k → k < b → vs[k]? = some x → seLt pv x = true := by
    intro k x k1 k2 e
    obtain ⟨i, i1, i2, i3⟩ := r2.mem (by omega) k2 e
    rw [r1.out (.inr (by omega))] at i3
    rcases seLin.tot x pv (h3 i x (by omega) i2 i3) with h4 | h4
    · subst h4
      have := hd i mid x i3 h1
      omega
    · exact h4
  intro i j x y c1 c2 c3 e1 e2
  by_cases hj : j < mid
  · rw [r2.out (.inl (by omega))] at e1 e2
    exact s1 i j x y c1 c2 hj e1 e2
  · by_cases hjm : j = mid
    · subst hjm; rw [hpv] at e2; cases e2
      exact left i x c1 c2 e1
    · by_cases hi : i < mid
      · exact seLin.tr _ _ _ (left i x c1 hi e1) (right j y (by omega) c3 e2)
      · by_cases him : i = mid
        · subst him; rw [hpv] at e1; cases e1
          exact right j y (by omega) c3 e2
        · exact s2 i j x y (by omega) c2 c3 e1 e2
theorem joined2C {a b mid : Nat} {zs ws vs : List Int} (hd : Dif zs) (hp : PartedC a b mid zs) (r1 : RP (mid + 1) b zs ws) (s1 : SoR seLt (mid + 1) b ws) (r2 : RP a mid ws vs) (s2 : SoR seLt a mid vs) : SoR seLt a b vs := by
  obtain ⟨p1, p2, pv, h1, h2, h3⟩ := hp
  have hpv : vs[mid]? = some pv := by rw [r2.out (.inr (by omega)), r1.out (.inl (by omega))]; exact h1
  have left : ∀ k x, a ≤ k → k < mid → vs[k]? = some x → seLt x pv = true := by
    intro k x k1 k2 e
    obtain ⟨i, i1, i2, i3⟩ := r2.mem k1 k2 e
    rw [r1.out (.inl (by omega))] at i3
    exact h2 i x i1 i2 i3
  have right : ∀ k x, mid < k → k < b → vs[k]? = some x → seLt pv x = true := by
    intro k x k1 k2 e
    rw [r2.out (.inr (by omega))] at e
    obtain ⟨i, i1, i2, i3⟩ := r1.mem (by omega) k2 e
    rcases seLin.tot x pv (h3 i x (by omega) i2 i3) with h4 | h4
    · subst h4
      have := hd i mid x i3 h1
      omega
    · exact h4
  intro i j x y c1 c2 c3 e1 e2
  by_cases hj : j < mid
  · exact s2 i j x y c1 c2 hj e1 e2
  · by_cases hjm : j = mid
    · subst hjm; rw [hpv] at e2; cases e2
      exact left i x c1 c2 e1
    · by_cases hi : i < mid
      · exact seLin.tr _ _ _ (left i x c1 hi e1) (right j y (by omega) c3 e2)
      · by_cases him : i = mid
        · subst him; rw [hpv] at e1; cases e1
          exact right j y (by omega) c3 e2
        · rw [r2.out (.inr (by omega))] at e1 e2
          exact s1 i j x y (by omega) c2 c3 e1 e2
theorem PartedC.low {a b mid : Nat} {zs : List Int} (hd : Dif zs) (hp : PartedC a b mid zs) : LowC (mid + 1) b zs := by
  obtain ⟨p1, p2, pv, h1, h2, h3⟩ := hp
  refine .inr ⟨pv, h1, fun k x k1 k2 e => ?_⟩
  rcases seLin.tot x pv (h3 k x (by omega) k2 e) with h4 | h4
  · subst h4
    have := hd k mid x e h1
    omega
  · exact h4
theorem LowC.left {a b m : Nat} {xs : List Int} (h : LowC a b xs) (hm : m ≤ b) : LowC a m xs := by
  rcases h with h | ⟨w, h1, h2⟩
  · exact .inl h
  · exact .inr ⟨w, h1, fun k x k1 k2 => h2 k x k1 (by omega)⟩
end Cmp
end Go.Proofs.YtobolifgehagfaaGreat

set_option linter.unusedVariables false
set_option linter.unusedSimpArgs false
set_option linter.unnecessarySimpa false
namespace Go.Proofs.YtobolifgehagfaaGreat
open Go Go.Den Go.Proofs
namespace Cmp
abbrev ASlC (f : Int → TR) (A : Addr) (n c : Nat) (xs : List Int) (l : List HP) : List HP := sl (seCC f) 39 4 (some A) n c xs :: l
def LoopsC (f : Int → TR) (A : Addr) (n c m : Nat) (l : List HP) : Prop := ∀ (a b : Nat) (lim : Int) (bal par : Bool) (xs : List Int) (H : Heap) (R : Ending → Heap → Prop), b - a ≤ m → a ≤ b → b ≤ n → 0 ≤ lim ∧ lim ≤ 100 → Dif xs → LowC a b xs → Sat H (ASlC f A n c xs l) →
  (∀ H1 ys, RP a b xs ys → SoR seLt a b ys → Sat H1 (ASlC f A n c ys l) → R (.returned (.tuple ⟨[]⟩)) H1) → F61.L0 (some A) n c (a : Nat) (b : Nat) lim cmpF bal par H R
theorem LoopsC.call {f : Int → TR} {A : Addr} {n c m : Nat} {l : List HP} (h : LoopsC f A n c m l) {a b : Nat} {lim : Int} {xs : List Int} {H : Heap} (h1 : b - a ≤ m) (h2 : a ≤ b) (h3 : b ≤ n) (h4 : 0 ≤ lim ∧ lim ≤ 100) (hd : Dif xs) (hl : LowC a b xs) (S : Sat H (ASlC f A n c xs l)) :
    CallsH Tryz.prog 61 ⟨[.slice (some A) n c, .int .i64 (a : Nat), .int .i64 (b : Nat), .int .i64 lim, FV.v cmpF]⟩ H (fun e H1 => e = .returned (.tuple ⟨[]⟩) ∧ ∃ ys, RP a b xs ys ∧ SoR seLt a b ys ∧ Sat H1 (ASlC f A n c ys l)) := by
  refine F61.calls ?_
  unfold F61.go
  exact h a b lim true true xs H _ h1 h2 h3 h4 hd hl S fun H1 ys r s S1 => ⟨rfl, ys, r, s, S1⟩
theorem loops_okC {f : Int → TR} (HS : HeapSortsC f) {A : Addr} {n c : Nat} {l : List HP} (hn : n ≤ 255) : ∀ m, LoopsC f A n c m l := by
  intro m
  induction m using Nat.strongRecOn with
  | ind m ih =>
  intro a b lim bal par xs H R hm hab hbn hlim hd hlow S k
  have hlx := (Sat.slLen S (List.mem_cons_self ..)).1
  have e0 : IntKind.wrap .i64 (((b : Nat) : Int) - ((a : Nat) : Int)) = ((b - a : Nat) : Int) := by
    rw [wr64 (by omega) (by omega)]; omega
  refine F61.L0_step ?_
  unfold F61.L0n
  rw [e0]
  refine iteB_i (fun h => ?_) (fun h => ?_)
  · refine callD_i (insert_sortC hab hbn (by omega) hd S) ?_
    rintro _ H1 ⟨rfl, ys, r, s, S1⟩
    refine tTup_i ?_
    refine tNil_i ?_
    exact k H1 ys r s S1
  have h12 : a + 12 < b := by have := of_decide_eq_false h; omega
  refine iteB_i (fun h => ?_) (fun h => ?_)
  · refine callD_i (HS hn h12 hbn hd S) ?_
    rintro _ H1 ⟨rfl, ys, r, s, S1⟩
    refine tTup_i ?_
    refine tNil_i ?_
    exact k H1 ys r s S1
  have hlim1 : 1 ≤ lim := by
    have : lim ≠ 0 := by intro e; subst e; cases h
    omega
  -- the parts
  have l5 : ∀ (q : Nat) (lim : Int) (ys : List Int) (H : Heap), 0 ≤ lim ∧ lim ≤ 100 → (a ≤ q ∧ q < b) → RP a b xs ys → Sat H (ASlC f A n c ys l) → F61.L5 (some A) n c (a : Nat) (b : Nat) lim cmpF ((b - a : Nat) : Int) (q : Nat) H R := by
    intro q lim ys H hlim hq hr S
    refine F61.L5_step ?_
    unfold F61.L5n
    refine callD_i (partition_okC (by omega) hbn (by omega) hq S) ?_
    rintro _ H1 ⟨mid, fl, zs, rfl, hr1, hp, S1⟩
    have hr2 := hr.trans hr1
    have hdz := hr2.dif hd
    have hlz := hlow.rp hr2
    have hmid : a ≤ mid ∧ mid < b := ⟨hp.1, hp.2.1⟩
    (repeat (first | (refine Step.go ?_; intros) | refine iteB_t (by decide) ?_ | refine iteB_f (by decide) ?_ | (refine Duo.mk (by first | omega | exact rfl | decide) ?_; intros) | (refine Duo.mk (Clo.mk (by kernel_rfl)) ?_; intros)))
    have em : IntKind.wrap .i64 (((mid : Nat) : Int) + (1 : Int)) = ((mid + 1 : Nat) : Int) := by
      rw [wr64 (by omega) (by omega)]; omega
    rw [em]
    refine iteB_i (fun h => ?_) (fun h => ?_)
    · refine callD_i ((ih (mid - a) (by omega)).call (Nat.le_refl _) hmid.1 (by omega) hlim hdz (LowC.left hlz (by omega)) S1) ?_
      rintro _ H2 ⟨rfl, ws, r1, s1, S2⟩
      (repeat (first | (refine Step.go ?_; intros) | refine iteB_t (by decide) ?_ | refine iteB_f (by decide) ?_ | (refine Duo.mk (by first | omega | exact rfl | decide) ?_; intros) | (refine Duo.mk (Clo.mk (by kernel_rfl)) ?_; intros)))
      refine ih (b - (mid + 1)) (by omega) (mid + 1) b lim _ _ ws H2 R (Nat.le_refl _) (by omega) hbn hlim (r1.dif hdz) ?_ S2 fun H3 vs r2 s2 S3 => ?_
      · rcases PartedC.low hdz hp with h0 | ⟨w, h1, h2⟩
        · omega
        · refine .inr ⟨w, by rw [r1.out (.inr (by omega))]; exact h1, fun k x k1 k2 e => ?_⟩
          rw [r1.out (.inr (by omega))] at e
          exact h2 k x k1 k2 e
      · exact k H3 vs ((hr2.trans (r1.mono (Nat.le_refl _) (by omega))).trans (r2.mono (by omega) (Nat.le_refl _))) (joinedC hdz hp r1 s1 r2 s2) S3
    · refine callD_i ((ih (b - (mid + 1)) (by omega)).call (Nat.le_refl _) (by omega) hbn hlim hdz (PartedC.low hdz hp) S1) ?_
      rintro _ H2 ⟨rfl, ws, r1, s1, S2⟩
      (repeat (first | (refine Step.go ?_; intros) | refine iteB_t (by decide) ?_ | refine iteB_f (by decide) ?_ | (refine Duo.mk (by first | omega | exact rfl | decide) ?_; intros) | (refine Duo.mk (Clo.mk (by kernel_rfl)) ?_; intros)))
      refine ih (mid - a) (by omega) a mid lim _ _ ws H2 R (Nat.le_refl _) hmid.1 (by omega) hlim (r1.dif hdz) ?_ S2 fun H3 vs r2 s2 S3 => ?_
      · rcases hlz with h0 | ⟨w, h1, h2⟩
        · exact .inl h0
        · by_cases ha : a = 0
          · exact .inl ha
          · refine .inr ⟨w, by rw [r1.out (.inl (by omega))]; exact h1, fun k x k1 k2 e => ?_⟩
            rw [r1.out (.inl (by omega))] at e
            exact h2 k x k1 (by omega) e
      · exact k H3 vs ((hr2.trans (r1.mono (by omega) (Nat.le_refl _))).trans (r2.mono (Nat.le_refl _) (by omega))) (joined2C hdz hp r1 s1 r2 s2) S3
  have l4 : ∀ (q : Nat) (lim : Int) (bal par : Bool) (ys : List Int) (H : Heap), 0 ≤ lim ∧ lim ≤ 100 → (a ≤ q ∧ q < b) → RP a b xs ys → Sat H (ASlC f A n c ys l) → F61.L4 (some A) n c (a : Nat) (b : Nat) lim cmpF bal par ((b - a : Nat) : Int) (q : Nat) H R := by
    intro q lim bal par ys H hlim hq hr S
    have hl := (Sat.slLen S (List.mem_cons_self ..)).1
    refine F61.L4_step ?_
    unfold F61.L4n
    refine iteB_i (fun h => ?_) (fun h => l5 q lim ys H hlim hq hr S)
    have h : 0 < a := by have := of_decide_eq_true h; omega
    rcases hlow.rp hr with h0 | ⟨w, h1, h2⟩
    · omega
    obtain ⟨x, hx⟩ : ∃ x, ys[q]? = some x := get_of (by omega)
    have hI := HasI.nat h1
    have hJ := HasI.nat hx
    have ea : IntKind.wrap .i64 (((a : Nat) : Int) - (1 : Int)) = ((a - 1 : Nat) : Int) := by
      rw [wr64 (by omega) (by omega)]; omega
    rw [ea]
    (repeat (first | (refine Step.go ?_; intros) | refine iteB_t (by decide) ?_ | refine iteB_f (by decide) ?_ | (refine Duo.mk (by first | omega | exact rfl | decide) ?_; intros) | (refine Duo.mk (Clo.mk (by kernel_rfl)) ?_; intros)))
    refine lessK (f := f) (v := w) (u := x) S fun H1 nn E1 S1 hnn => ?_
    refine ⟨_, rfl, ?_⟩
    dsimp only
    rw [hnn]
    rw [h2 q x hq.1 hq.2 hx]
    refine iteB_f rfl ?_
    exact l5 q lim ys H1 hlim hq hr S1
  have l2 : ∀ (q : Nat) (hint lim : Int) (bal par : Bool) (ys : List Int) (H : Heap), 0 ≤ lim ∧ lim ≤ 100 → (a ≤ q ∧ q < b) → RP a b xs ys → Sat H (ASlC f A n c ys l) → F61.L2 (some A) n c (a : Nat) (b : Nat) lim cmpF bal par ((b - a : Nat) : Int) (q : Nat) hint H R := by
    intro q hint lim bal par ys H hlim hq hr S
    refine F61.L2_step ?_
    unfold F61.L2n
    refine iteB_i (fun _ => ?_) (fun _ => l4 q lim bal par ys H hlim hq hr S)
    refine iteB_i (fun _ => ?_) (fun _ => l4 q lim bal par ys H hlim hq hr S)
    refine iteB_i (fun _ => ?_) (fun _ => l4 q lim bal par ys H hlim hq hr S)
    refine F61.L3_step ?_
    unfold F61.L3n
    refine callD_i (partial_okC (by omega) h12 hbn (hr.dif hd) (hlow.rp hr) S) ?_
    rintro _ H1 ⟨r, zs, rfl, hr1, hs, S1⟩
    refine tBool_i ?_
    refine iteB_i (fun h => ?_) (fun h => l4 q lim bal par zs H1 hlim hq (hr.trans hr1) S1)
    exact k H1 zs (hr.trans hr1) (hs h) S1
  have l1 : ∀ (lim : Int) (bal par : Bool) (ys : List Int) (H : Heap), 0 ≤ lim ∧ lim ≤ 100 → RP a b xs ys → Sat H (ASlC f A n c ys l) → F61.L1 (some A) n c (a : Nat) (b : Nat) lim cmpF bal par ((b - a : Nat) : Int) H R := by
    intro lim bal par ys H hlim hr S
    refine F61.L1_step ?_
    unfold F61.L1n
    refine callD_i (choose_okC (by omega) h12 hbn S) ?_
    rintro _ H1 ⟨q, hint, rfl, hq, S1⟩
    (repeat (first | (refine Step.go ?_; intros) | refine iteB_t (by decide) ?_ | refine iteB_f (by decide) ?_ | (refine Duo.mk (by first | omega | exact rfl | decide) ?_; intros) | (refine Duo.mk (Clo.mk (by kernel_rfl)) ?_; intros)))
    refine iteB_i (fun h => ?_) (fun h => l2 q hint lim bal par ys H1 hlim hq hr S1)
    refine callD_i (reverse_okC (by omega) (by omega) hbn S1) ?_
    rintro _ H2 ⟨rfl, zs, hr1, S2⟩
    (repeat (first | (refine Step.go ?_; intros) | refine iteB_t (by decide) ?_ | refine iteB_f (by decide) ?_ | (refine Duo.mk (by first | omega | exact rfl | decide) ?_; intros) | (refine Duo.mk (Clo.mk (by kernel_rfl)) ?_; intros)))
    have e1 : IntKind.wrap .i64 (((b : Nat) : Int) - (1 : Int)) = ((b - 1 : Nat) : Int) := by rw [wr64 (by omega) (by omega)]; omega
    have e2 : IntKind.wrap .i64 (((q : Nat) : Int) - ((a : Nat) : Int)) = ((q - a : Nat) : Int) := by rw [wr64 (by omega) (by omega)]; omega
    have e3 : IntKind.wrap .i64 (((b - 1 : Nat) : Int) - ((q - a : Nat) : Int)) = ((b - 1 - (q - a) : Nat) : Int) := by rw [wr64 (by omega) (by omega)]; omega
    rw [e1, e2, e3]
    exact l2 (b - 1 - (q - a)) 1 lim bal par zs H2 hlim (by omega) (hr.trans hr1) S2
  refine iteB_i (fun h => ?_) (fun h => l1 lim bal par xs H hlim (.refl _) S)
  refine callD_i (break_okC hn h12 hbn S) ?_
  rintro _ H1 ⟨rfl, ys, hr1, S1⟩
  refine tTup_i ?_
  refine tNil_i ?_
  rw [wr64 (by omega) (by omega)]
  exact l1 (lim - 1) bal par ys H1 (by omega) hr1 S1
end Cmp
end Go.Proofs.YtobolifgehagfaaGreat

set_option linter.unusedVariables false
set_option linter.unusedSimpArgs false
set_option linter.unnecessarySimpa false
namespace Go.Proofs.YtobolifgehagfaaGreat
open Go Go.Den Go.Proofs
namespace Cmp
section
variable {f : Int → TR} {H H0 : Heap} {l : List HP}
theorem sift_okC {p : Option Addr} {n c fo lo hi : Nat} {xs : List Int} (hn : n ≤ 255) (hlo : lo < hi) (hb : fo + hi ≤ n) (hh : HeapF fo (lo + 1) hi xs) (S : Sat H (sl (seCC f) 39 4 p n c xs :: l)) :
    CallsH Tryz.prog 96 ⟨[.slice p n c, .int .i64 (lo : Nat), .int .i64 (hi : Nat), .int .i64 (fo : Nat), FV.v cmpF]⟩ H (fun e H1 => e = .returned (.tuple ⟨[]⟩) ∧ ∃ ys, RP (fo + lo) (fo + hi) xs ys ∧ HeapF fo lo hi ys ∧ Sat H1 (sl (seCC f) 39 4 p n c ys :: l)) := by
  obtain ⟨ra, oa, rfl⟩ := S.slSome (List.mem_cons_self ..) (by omega)
  refine F96.calls ?_
  unfold F96.go
  have loop : ∀ (m r : Nat) (ys : List Int) (H : Heap), hi - r ≤ m → lo ≤ r → r < hi → RP (fo + lo) (fo + hi) xs ys → HoleF fo lo hi r ys → Sat H (sl (seCC f) 39 4 (some ⟨ra, oa, none⟩) n c ys :: l) →
      F96.L0 (some ⟨ra, oa, none⟩) n c (hi : Nat) (fo : Nat) cmpF (r : Nat) H (fun e H1 => e = .returned (.tuple ⟨[]⟩) ∧ ∃ ys, RP (fo + lo) (fo + hi) xs ys ∧ HeapF fo lo hi ys ∧ Sat H1 (sl (seCC f) 39 4 (some ⟨ra, oa, none⟩) n c ys :: l)) := by
    intro m
    induction m with
    | zero => intro r ys H hm h1 h2; omega
    | succ m ih =>
      intro r ys H hm h1 h2 hr hv S
      have hl := (Sat.slLen S (List.mem_cons_self ..)).1
      have e1 : IntKind.wrap .i64 (IntKind.wrap .i64 ((2 : Int) * ((r : Nat) : Int)) + (1 : Int)) = ((2 * r + 1 : Nat) : Int) := by
        have : IntKind.wrap .i64 ((2 : Int) * ((r : Nat) : Int)) = ((2 * r : Nat) : Int) := by rw [wr64 (by omega) (by omega)]; omega
        rw [this, wr64 (by omega) (by omega)]; omega
      obtain ⟨x, hx⟩ : ∃ x, ys[fo + r]? = some x := get_of (by omega)
      -- down to a kid
      have l2 : ∀ (k : Nat) (H : Heap), kid r k → k < hi → (∀ y, ys[fo + k]? = some y → ∀ c' z, kid r c' → c' < hi → ys[fo + c']? = some z → seLt y z = false) → Sat H (sl (seCC f) 39 4 (some ⟨ra, oa, none⟩) n c ys :: l) → F96.L2 (some ⟨ra, oa, none⟩) n c (hi : Nat) (fo : Nat) cmpF (r : Nat) (k : Nat) H (fun e H1 => e = .returned (.tuple ⟨[]⟩) ∧ ∃ ys, RP (fo + lo) (fo + hi) xs ys ∧ HeapF fo lo hi ys ∧ Sat H1 (sl (seCC f) 39 4 (some ⟨ra, oa, none⟩) n c ys :: l)) := by
        intro k H hk hkh hmax S
        have hrk : r < k := by rcases hk with hk | hk <;> omega
        obtain ⟨y, hy⟩ : ∃ y, ys[fo + k]? = some y := get_of (by omega)
        have hI := HasI.nat hx
        have hJ := HasI.nat hy
        have ea : IntKind.wrap .i64 (((fo : Nat) : Int) + ((r : Nat) : Int)) = ((fo + r : Nat) : Int) := by rw [wr64 (by omega) (by omega)]; omega
        have eb : IntKind.wrap .i64 (((fo : Nat) : Int) + ((k : Nat) : Int)) = ((fo + k : Nat) : Int) := by rw [wr64 (by omega) (by omega)]; omega
        refine F96.L2_step ?_
        unfold F96.L2n
        rw [ea, eb]
        refine Step.go ?_
        refine Duo.mk ⟨by omega, by omega⟩ ?_
        refine Step.go ?_
        refine Duo.mk ⟨by omega, by omega⟩ ?_
        (repeat (first | (refine Step.go ?_; intros) | refine iteB_t (by decide) ?_ | refine iteB_f (by decide) ?_ | (refine Duo.mk (by first | omega | exact rfl | decide) ?_; intros) | (refine Duo.mk (Clo.mk (by kernel_rfl)) ?_; intros)))
        refine lessK (f := f) (v := x) (u := y) S fun H1 nn E1 S1 hnn => ?_
        refine ⟨_, rfl, ?_⟩
        dsimp only
        rw [hnn]
        refine iteB_i (fun h => ?_) (fun h => ?_)
        · have h : seLt x y = false := by simpa using h
          refine ⟨rfl, ys, hr, hv.stop fun c' x' z k1 k2 k3 k4 => ?_, S1⟩
          rw [hx] at k3; cases k3
          -- x is not ahead of y, y not ahead of z
          cases hz : seLt x z with
          | false => rfl
          | true =>
            have h3 := hmax y hy c' z k1 k2 k4
            rcases seLin.tot y z h3 with h4 | h4
            · subst h4; rw [h] at hz; cases hz
            · have := seLin.tr _ _ _ hz h4; rw [h] at this; cases this
        · have h : seLt x y = true := by simpa using h
          clear S
          refine Step.go ?_
          refine Duo.mk ⟨by omega, by omega⟩ ?_
          refine Step.go ?_
          refine Duo.mk ⟨by omega, by omega⟩ ?_
          iterate 9 (refine Step.go ?_)
          refine Duo.mk ⟨by omega, by omega⟩ ?_
          refine swap_iC S1 hx hy fun H2 S2 => ?_
          exact ih k _ H2 (by omega) (by omega) hkh (hr.trans (RP.one ⟨by omega, by omega⟩ ⟨by omega, by omega⟩ hx hy)) (hv.down h1 hk hkh hx hy h (hmax y hy)) S2
      refine F96.L0_step ?_
      unfold F96.L0n
      rw [e1]
      refine iteB_i (fun h => ?_) (fun h => ?_)
      · have h : hi ≤ 2 * r + 1 := by have := of_decide_eq_true h; omega
        exact ⟨rfl, ys, hr, hv.stop fun c' x' z k1 k2 => by rcases k1 with k1 | k1 <;> omega, S⟩
      have h : 2 * r + 1 < hi := by have := of_decide_eq_false h; omega
      obtain ⟨y, hy⟩ : ∃ y, ys[fo + (2 * r + 1)]? = some y := get_of (by omega)
      have e2 : IntKind.wrap .i64 (((2 * r + 1 : Nat) : Int) + (1 : Int)) = ((2 * r + 2 : Nat) : Int) := by rw [wr64 (by omega) (by omega)]; omega
      have e3 : IntKind.wrap .i64 (((fo : Nat) : Int) + ((2 * r + 1 : Nat) : Int)) = ((fo + (2 * r + 1) : Nat) : Int) := by rw [wr64 (by omega) (by omega)]; omega
      have e4 : IntKind.wrap .i64 (((fo + (2 * r + 1) : Nat) : Int) + (1 : Int)) = ((fo + (2 * r + 2) : Nat) : Int) := by rw [wr64 (by omega) (by omega)]; omega
      rw [e2, e3, e4]
      refine iteB_i (fun h2 => ?_) (fun h2 => ?_)
      · have h2 : 2 * r + 2 < hi := by have := of_decide_eq_true h2; omega
        obtain ⟨z, hz⟩ : ∃ z, ys[fo + (2 * r + 2)]? = some z := get_of (by omega)
        have hI := HasI.nat hy
        have hJ := HasI.nat hz
        refine Step.go ?_
        refine Duo.mk ⟨by omega, by omega⟩ ?_
        refine Step.go ?_
        refine Duo.mk ⟨by omega, by omega⟩ ?_
        (repeat (first | (refine Step.go ?_; intros) | refine iteB_t (by decide) ?_ | refine iteB_f (by decide) ?_ | (refine Duo.mk (by first | omega | exact rfl | decide) ?_; intros) | (refine Duo.mk (Clo.mk (by kernel_rfl)) ?_; intros)))
        refine lessK (f := f) (v := y) (u := z) S fun H1 nn E1 S1 hnn => ?_
        refine ⟨_, rfl, ?_⟩
        dsimp only
        rw [hnn]
        refine iteB_i (fun hlt => ?_) (fun hlt => ?_)
        · refine F96.L1_step ?_
          unfold F96.L1n
          rw [e2]
          refine l2 (2 * r + 2) H1 (.inr rfl) h2 (fun z' hz' c' w k1 k2 k3 => ?_) S1
          rw [hz] at hz'; cases hz'
          rcases k1 with rfl | rfl
          · rw [hy] at k3; cases k3
            cases h5 : seLt z y with
            | false => rfl
            | true => have := seLin.tr _ _ _ hlt h5; rw [seLin.irr] at this; cases this
          · rw [hz] at k3; cases k3; exact seLin.irr z
        · refine l2 (2 * r + 1) H1 (.inl rfl) h (fun y' hy' c' w k1 k2 k3 => ?_) S1
          rw [hy] at hy'; cases hy'
          rcases k1 with rfl | rfl
          · rw [hy] at k3; cases k3; exact seLin.irr y
          · rw [hz] at k3; cases k3; exact hlt
      · have h2 : ¬ 2 * r + 2 < hi := by have := of_decide_eq_false h2; omega
        refine l2 (2 * r + 1) H (.inl rfl) h (fun y' hy' c' w k1 k2 k3 => ?_) S
        rw [hy] at hy'; cases hy'
        rcases k1 with rfl | rfl
        · rw [hy] at k3; cases k3; exact seLin.irr y
        · omega
  exact loop _ lo xs H (Nat.le_refl _) (Nat.le_refl _) hlo (.refl _) (HoleF.start hh) S
end
end Cmp
end Go.Proofs.YtobolifgehagfaaGreat

set_option linter.unusedVariables false
set_option linter.unusedSimpArgs false
set_option linter.unnecessarySimpa false
namespace Go.Proofs.YtobolifgehagfaaGreat
open Go Go.Den Go.Proofs
namespace Cmp
theorem sift_noneC {f : Int → TR} {H : Heap} {l : List HP} {p : Option Addr} {n c fo : Nat} {xs : List Int} (S : Sat H (sl (seCC f) 39 4 p n c xs :: l)) :
    CallsH Tryz.prog 96 ⟨[.slice p n c, .int .i64 (0 : Int), .int .i64 (0 : Int), .int .i64 (fo : Nat), FV.v cmpF]⟩ H (fun e H1 => e = .returned (.tuple ⟨[]⟩) ∧ Sat H1 (sl (seCC f) 39 4 p n c xs :: l)) := by
  refine F96.calls ?_
  unfold F96.go
  refine F96.L0_step ?_
  unfold F96.L0n
  refine iteB_t (by decide) ?_
  exact ⟨rfl, S⟩
theorem heap_sortsC {f : Int → TR} : HeapSortsC f := by
  intro H l p n c a b xs hn hab hb hd S
  obtain ⟨ra, oa, rfl⟩ := S.slSome (List.mem_cons_self ..) (by omega)
  obtain ⟨hi, rfl⟩ : ∃ hi, b = a + hi := ⟨b - a, by omega⟩
  have l1 : ∀ (m : Nat) (ys : List Int) (H : Heap), m ≤ hi → RP a (a + hi) xs ys → HeapF a 0 m ys → TailF a m hi ys → Sat H (sl (seCC f) 39 4 (some ⟨ra, oa, none⟩) n c ys :: l) →
      F83.L1 (some ⟨ra, oa, none⟩) n c cmpF (a : Nat) (0 : Int) ((m : Nat) - 1 : Int) H (fun e H1 => e = .returned (.tuple ⟨[]⟩) ∧ ∃ ys, RP a (a + hi) xs ys ∧ SoR seLt a (a + hi) ys ∧ Sat H1 (sl (seCC f) 39 4 (some ⟨ra, oa, none⟩) n c ys :: l)) := by
    intro m
    induction m with
    | zero =>
      intro ys H hm hr hh ht S
      refine F83.L1_step ?_
      unfold F83.L1n
      refine iteB_f (by decide) ?_
      exact ⟨rfl, ys, hr, ht.1, S⟩
    | succ m ih =>
      intro ys H hm hr hh ht S
      have hl := (Sat.slLen S (List.mem_cons_self ..)).1
      have em : (((m + 1 : Nat) : Int) - 1) = (m : Nat) := by omega
      rw [em]
      have ea : IntKind.wrap .i64 (((a : Nat) : Int) + ((m : Nat) : Int)) = ((a + m : Nat) : Int) := by rw [wr64 (by omega) (by omega)]; omega
      obtain ⟨x, hx⟩ : ∃ x, ys[a]? = some x := get_of (by omega)
      obtain ⟨y, hy⟩ : ∃ y, ys[a + m]? = some y := get_of (by omega)
      have hI := HasI.nat hx
      have hJ := HasI.nat hy
      refine F83.L1_step ?_
      unfold F83.L1n
      rw [ea]
      refine iteB_t (by simp) ?_
      refine Step.go ?_
      refine Duo.mk ⟨by omega, by omega⟩ ?_
      refine Step.go ?_
      refine Duo.mk ⟨by omega, by omega⟩ ?_
      iterate 9 (refine Step.go ?_)
      refine Duo.mk ⟨by omega, by omega⟩ ?_
      refine swap_iC S hx hy fun H2 S2 => ?_
      have hr1 := hr.trans (RP.one (a := a) (b := a + hi) ⟨by omega, by omega⟩ ⟨by omega, by omega⟩ hx hy)
      have hd1 := hr.dif hd
      have ew : IntKind.wrap .i64 (((m : Nat) : Int) - (1 : Int)) = ((m : Nat) - 1 : Int) := by rw [wr64 (by omega) (by omega)]
      rw [ew]
      rcases Nat.eq_zero_or_pos m with h0 | h0
      · subst h0
        refine callD_i (sift_noneC S2) ?_
        rintro _ H3 ⟨rfl, S3⟩
        refine tTup_i ?_
        refine tNil_i ?_
        exact ih _ H3 (by omega) hr1 (fun i c x y k1 k2 k3 => by omega) (tail_next hd1 hh ht (by omega) hx hy (.refl _)) S3
      · refine callD_i (sift_okC (lo := 0) (hi := m) hn h0 (by omega) (heap_swap hh hx hy) S2) ?_
        rintro _ H3 ⟨rfl, ws, r3, h3, S3⟩
        refine tTup_i ?_
        refine tNil_i ?_
        exact ih ws H3 (by omega) (hr1.trans (r3.mono (by omega) (by omega))) h3 (tail_next hd1 hh ht (by omega) hx hy r3) S3
  have l0 : ∀ (m : Nat) (ys : List Int) (H : Heap), m ≤ hi → RP a (a + hi) xs ys → HeapF a m hi ys → Sat H (sl (seCC f) 39 4 (some ⟨ra, oa, none⟩) n c ys :: l) →
      F83.L0 (some ⟨ra, oa, none⟩) n c cmpF (a : Nat) (0 : Int) (hi : Nat) ((m : Nat) - 1 : Int) H (fun e H1 => e = .returned (.tuple ⟨[]⟩) ∧ ∃ ys, RP a (a + hi) xs ys ∧ SoR seLt a (a + hi) ys ∧ Sat H1 (sl (seCC f) 39 4 (some ⟨ra, oa, none⟩) n c ys :: l)) := by
    intro m
    induction m with
    | zero =>
      intro ys H hm hr hh S
      refine F83.L0_step ?_
      unfold F83.L0n
      refine iteB_f (by decide) ?_
      have ew : IntKind.wrap .i64 (((hi : Nat) : Int) - (1 : Int)) = ((hi : Nat) - 1 : Int) := by rw [wr64 (by omega) (by omega)]
      rw [ew]
      exact l1 hi ys H (Nat.le_refl _) hr hh ⟨fun p q x y h1 h2 h3 => by omega, fun p q x y h1 h2 h3 => by omega⟩ S
    | succ m ih =>
      intro ys H hm hr hh S
      have em : (((m + 1 : Nat) : Int) - 1) = (m : Nat) := by omega
      rw [em]
      refine F83.L0_step ?_
      unfold F83.L0n
      refine iteB_t (by simp) ?_
      have ew : IntKind.wrap .i64 (((m : Nat) : Int) - (1 : Int)) = ((m : Nat) - 1 : Int) := by rw [wr64 (by omega) (by omega)]
      rw [ew]
      refine callD_i (sift_okC (lo := m) (hi := hi) hn (by omega) hb hh S) ?_
      rintro _ H3 ⟨rfl, ws, r3, h3, S3⟩
      refine tTup_i ?_
      refine tNil_i ?_
      exact ih ws H3 (by omega) (hr.trans (r3.mono (by omega) (by omega))) h3 S3
  refine F83.calls ?_
  unfold F83.go
  refine Step.go ?_
  refine Duo.mk (by decide) ?_
  have e0 : IntKind.wrap .i64 (((a + hi : Nat) : Int) - ((a : Nat) : Int)) = ((hi : Nat) : Int) := by rw [wr64 (by omega) (by omega)]; omega
  have e1 : IntKind.wrap .i64 (((hi : Nat) : Int) - (1 : Int)) = ((hi - 1 : Nat) : Int) := by rw [wr64 (by omega) (by omega)]; omega
  have e2 : Int.tdiv ((hi - 1 : Nat) : Int) (2 : Int) = (((hi - 1) / 2 : Nat) : Int) := by
    rw [Int.tdiv_eq_ediv_of_nonneg (by omega)]; omega
  have e3 : IntKind.wrap .i64 ((((hi - 1) / 2 : Nat)) : Int) = (((hi - 1) / 2 + 1 : Nat) : Int) - 1 := by rw [wr64 (by omega) (by omega)]; omega
  rw [e0, e1, e2, e3]
  exact l0 ((hi - 1) / 2 + 1) xs H (by omega) (.refl _) (fun i c x y h1 h2 h3 => by rcases h2 with h2 | h2 <;> omega) S
end Cmp
end Go.Proofs.YtobolifgehagfaaGreat

set_option linter.unusedVariables false
set_option linter.unusedSimpArgs false
set_option linter.unnecessarySimpa false
namespace Go.Proofs.YtobolifgehagfaaGreat
open Go Go.Den Go.Proofs
namespace Cmp
section
variable {f : Int → TR} {H H0 : Heap} {l : List HP}
theorem len64_leC {x : Nat} (hx : x < 256) : CallsH Tryz.prog 79 ⟨[.int .u64 (x : Nat)]⟩ H (fun e H1 => ExtH H H1 ∧ ∃ k : Nat, e = .returned (.int .i64 (k : Nat)) ∧ k ≤ 8) := by
  have hk := List.all_eq_true.1 len_allC x (List.mem_range.2 hx)
  unfold okLenC at hk
  split at hk
  · rename_i b hb
    simp only [Bool.and_eq_true, Bool.or_eq_true] at hk
    obtain ⟨⟨k1, k2⟩, k3⟩ := hk
    refine F79.calls ?_
    unfold F79.go
    refine iteB_f (decide_eq_false (by omega)) ?_
    refine F79.L0_step ?_
    unfold F79.L0n
    refine iteB_f (decide_eq_false (by omega)) ?_
    refine F79.L1_step ?_
    unfold F79.L1n
    refine iteB_f (decide_eq_false (by omega)) ?_
    refine F79.L2_step ?_
    unfold F79.L2n
    have ew : IntKind.wrap .u8 ((x : Nat) : Int) = ((x : Nat) : Int) := wrU8 (by omega) (by omega)
    rw [ew]
    refine ⟨by omega, b, by rw [Int.toNat_natCast]; exact hb, ?_⟩
    have hb8 : b.toNat ≤ 8 := Nat.le_of_ble_eq_true k1
    have e1 : IntKind.wrap .i64 ((b.toNat : Nat) : Int) = ((b.toNat : Nat) : Int) := wr64 (by omega) (by omega)
    have e2 : IntKind.wrap .i64 ((0 : Int) + IntKind.wrap .i64 ((b.toNat : Nat) : Int)) = ((b.toNat : Nat) : Int) := by
      rw [e1, Int.zero_add, e1]
    dsimp only
    rw [e2]
    exact ⟨ExtH.refl _, b.toNat, rfl, hb8⟩
  · cases hk
theorem sort_okC {p : Option Addr} {n c : Nat} {xs : List Int} (hn : n ≤ 255) (hd : Dif xs) (S : Sat H (sl (seCC f) 39 4 p n c xs :: l)) :
    CallsH Tryz.prog 47 ⟨[.slice p n c, FV.v cmpF]⟩ H (fun e H1 => e = .returned (.tuple ⟨[]⟩) ∧ ∃ ys, ys.Perm xs ∧ SoR seLt 0 n ys ∧ Sat H1 (sl (seCC f) 39 4 p n c ys :: l)) := by
  refine F47.calls ?_
  unfold F47.go
  have len : CallsH Tryz.prog 58 ⟨[.int .u64 (n : Nat)]⟩ H (fun e H1 => ExtH H H1 ∧ ∃ k : Nat, e = .returned (.int .i64 (k : Nat)) ∧ k ≤ 8) := by
    refine F58.calls ?_
    unfold F58.go
    refine callD_i (len64_leC (by omega)) ?_
    rintro _ H1 ⟨E1, k, rfl, hk⟩
    refine tInt_i ?_
    exact ⟨E1, k, rfl, hk⟩
  have ew : IntKind.wrap .u64 ((n : Nat) : Int) = ((n : Nat) : Int) := wrU64 (by omega) (by omega)
  rw [ew]
  refine callD_i len ?_
  rintro _ H1 ⟨E1, k, rfl, hk⟩
  refine tInt_i ?_
  have S1 := S.ext E1
  have go : CallsH Tryz.prog 61 ⟨[.slice p n c, .int .i64 ((0 : Nat) : Int), .int .i64 (n : Nat), .int .i64 (k : Nat), FV.v cmpF]⟩ H1 (fun e H1 => e = .returned (.tuple ⟨[]⟩) ∧ ∃ ys, RP 0 n xs ys ∧ SoR seLt 0 n ys ∧ Sat H1 (sl (seCC f) 39 4 p n c ys :: l)) := by
    rcases Nat.eq_zero_or_pos n with h0 | h0
    · subst h0
      refine F61.calls ?_
      unfold F61.go
      refine F61.L0_step ?_
      unfold F61.L0n
      refine iteB_t (by decide) ?_
      refine callD_i (insert_sortC (Nat.le_refl _) (Nat.le_refl _) (by omega) hd S1) ?_
      rintro _ H2 ⟨rfl, ys, r, s, S2⟩
      refine tTup_i ?_
      refine tNil_i ?_
      exact ⟨rfl, ys, r, s, S2⟩
    · obtain ⟨ra, oa, rfl⟩ := S1.slSome (List.mem_cons_self ..) h0
      exact (loops_okC heap_sortsC hn n).call (by omega) (by omega) (Nat.le_refl _) (by omega) hd (.inl rfl) S1
  refine callD_i go ?_
  rintro _ H2 ⟨rfl, ys, r, s, S2⟩
  refine tTup_i ?_
  refine tNil_i ?_
  exact ⟨rfl, ys, r.perm, s, S2⟩
end
end Cmp
end Go.Proofs.YtobolifgehagfaaGreat
