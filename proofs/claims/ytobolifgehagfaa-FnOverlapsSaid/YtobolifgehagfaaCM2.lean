/- What functions of this seat do, each proved by a walk; no condition. -/
import Derived.Test.YtobolifgehagfaaCM1
set_option linter.unusedVariables false
set_option linter.unusedSimpArgs false
set_option linter.unnecessarySimpa false
namespace Go.Proofs.Ytobolifgehagfaa
open Go Go.Den Go.Proofs
/-! The reference over a transaction's operations. -/
/-- A copy of records behind an empty slice of its own. -/
theorem dupR {α : Type} {f : α → List Value} {z : Nat} {E : TypeId} {H : Heap} {l : List HP} {r : Nat} {q : Option Addr} {ys : List α} {d bytes : Nat} {zs : List Value} {K : Option Addr → Nat → Nat → Heap → Prop} (S : Sat H (pt r (.cells ⟨[]⟩ E) :: l)) (hR : RowsAt f z H q ys) (hd : ys.length = d) (hz : ∀ y, (f y).length = z) (hc : ∀ y, ∀ v ∈ f y, isCell v = true)
    (hzs : zs.length = z) (hb : bytes ≠ 0) (hs : (2 * d + 768) * bytes ≤ 2 ^ 48) (k : ∀ p' c' H1, ExtH H H1 → Sat H1 (sl f E z p' d c' ys :: l) → K p' d c' H1) : apD H z bytes zs E (some ⟨r, 0, none⟩) 0 0 q d K := by
  have hyl : (ys.flatMap f).length = d * z := by rw [flat_len (fun y _ => hz y), hd]
  refine ⟨ys.flatMap f, hyl, hR.cells hz, ?_, ?_⟩
  · intro hle
    have hd0 : d = 0 := by omega
    subst hd0
    have ey : ys = [] := List.eq_nil_of_length_eq_zero hd
    subst ey
    simp only [stP]
    exact k _ _ _ (ExtH.refl _) (S.to (Ent.slClose (f := f) (pre := []) (xs := []) (sp := []) rfl (by simp) (Nat.le_refl _) rfl (by simp)))
  · intro hlt
    refine ⟨hb, ?_, ?_⟩
    · have := nextcap_le (n := 0 + d) (c := 0) hlt
      rw [Nat.zero_add] at this ⊢
      exact Nat.le_trans (Nat.mul_le_mul_right _ this) hs
    · refine ⟨[], by simp, fun j v h => by simp at h, fun cap hcap => ?_⟩
      rw [Nat.zero_add] at hcap ⊢
      refine k _ _ _ (ExtH.push H _) ?_
      have S2 := S.push (.cells ⟨[] ++ ys.flatMap f ++ repZ zs (cap - d)⟩ E)
      simp only [List.nil_append] at S2 ⊢
      have S3 := S2.to (Ent.slClose (f := f) (pre := []) hd (fun y _ => hz y) hcap rfl (by rw [repZ_length, hzs]; exact Nat.le_refl _))
      exact S3.to (Ent.cons (Ent.drop .refl))
def sum4 {C : Type} (T : List C → Nat) (xs : List (RqF C)) : Nat := (xs.map fun x => if x.k = 4 then T x.T + T x.E else 0).sum
def cntk {C : Type} (j : Int) (xs : List (RqF C)) : Nat := (xs.filter fun x => decide (x.k = j)).length
theorem sum4_cnt {C : Type} {T : List C → Nat} {j : Int} (hj : j ≠ 4) : ∀ xs : List (RqF C), cntk j xs + sum4 T xs ≤ totL T xs
  | [] => by simp [cntk, sum4, totL]
  | x :: xs => by
    have ih := sum4_cnt (T := T) hj xs
    unfold cntk sum4 totL at ih ⊢
    simp only [List.map_cons, List.sum_cons, List.filter_cons]
    by_cases h : x.k = 4
    · rw [if_pos h, if_pos h, if_neg (by rw [h]; simpa using fun e => hj e.symm)]; omega
    · rw [if_neg h, if_neg h]
      split
      · simp only [List.length_cons]; omega
      · omega
theorem sum4_take {C : Type} {T : List C → Nat} {xs : List (RqF C)} {i : Nat} {x : RqF C} (hx : xs[i]? = some x) : sum4 T (xs.take (i + 1)) = sum4 T (xs.take i) + if x.k = 4 then T x.T + T x.E else 0 := by
  unfold sum4
  rw [List.take_add_one, hx]
  simp
theorem sum4_le {C : Type} {T : List C → Nat} (xs : List (RqF C)) (i : Nat) : sum4 T (xs.take i) ≤ sum4 T xs := by
  have : sum4 T xs = sum4 T (xs.take i) + sum4 T (xs.drop i) := by
    unfold sum4
    rw [← List.sum_append, ← List.map_append, List.take_append_drop]
  omega
theorem cnt_take {C : Type} {j : Int} {xs : List (RqF C)} {i : Nat} {x : RqF C} (hx : xs[i]? = some x) : cntk j (xs.take (i + 1)) = cntk j (xs.take i) + if x.k = j then 1 else 0 := by
  unfold cntk
  rw [List.take_add_one, hx, List.filter_append, List.length_append]
  by_cases h : x.k = j
  · simp [h]
  · simp [h]
theorem cnt_le {C : Type} {j : Int} (xs : List (RqF C)) (i : Nat) : cntk j (xs.take i) ≤ cntk j xs := by
  have : cntk j xs = cntk j (xs.take i) + cntk j (xs.drop i) := by
    unfold cntk
    rw [← List.length_append, ← List.filter_append, List.take_append_drop]
  omega
theorem dels_take {C : Type} {xs : List (RqF C)} {i : Nat} {x : RqF C} (hx : xs[i]? = some x) : delsK (xs.take (i + 1)) = delsK (xs.take i) ++ if x.k = 3 then [keyD x] else [] := by
  unfold delsK
  rw [List.take_add_one, hx, List.filter_append, List.map_append]
  by_cases h : x.k = 3
  · simp [h]
  · simp [h]
theorem dels_len {C : Type} (xs : List (RqF C)) : (delsK xs).length = cntk 3 xs := by unfold delsK cntk; rw [List.length_map]
abbrev SpSt (H : Heap) (s2 s4 : Nat) (q : Option Addr) (d : Nat) (p : Option Addr) (c : Nat) (P : List SE) (D : List (SP × Int)) : List HP :=
  [pt s4 (toO q P.length d 1 p D.length c), sl seC 9 1 q P.length d P, sl pcC 71 6 p D.length c (D.map plainX), pt s2 (toO none 0 0 0 none 0 0), old H]
def Szs (P : List SE) : Prop := ∀ s ∈ P, s.size ≤ 140737488351232
theorem Szs.put {P : List SE} {s : SE} (h : Szs P) (hs : s.size ≤ 140737488351232) : Szs (putX s P) := fun y hy => by
  rcases putX_mem.1 hy with rfl | hy
  · exact hs
  · exact h y hy
def SzD (D : List (SP × Int)) : Prop := ∀ x ∈ D, SzX x
theorem SzD.put {D : List (SP × Int)} {z : SP × Int} (h : SzD D) (hz : SzX z) : SzD (putP 1 z D) := fun y hy => by
  rcases putP_mem.1 hy with rfl | hy
  · exact hz
  · exact h y hy
section
variable {H : Heap} {s2 s4 : Nat}
/-- One interval is put. -/
theorem put_St {H1 : Heap} {q p : Option Addr} {d c : Nat} {P : List SE} {D : List (SP × Int)} {s : SP} {M : List HP} (hs : s.b.size ≤ 140737488351232) (hD : SzD D) (hl : D.length ≤ 100000) (S : Sat H1 (pt s4 (toO q P.length d 1 p D.length c) :: sl pcC 71 6 p D.length c (D.map plainX) :: M)) {Q : List PanicEntry → Heap → Prop} {K : Value → Heap → Prop}
    (k : ∀ p' c' H2, Sat H2 (pt s4 (toO q P.length d 1 p' (putP 1 (s, 0) D).length c') :: sl pcC 71 6 p' (putP 1 (s, 0) D).length c' ((putP 1 (s, 0) D).map plainX) :: M) → K (.tuple ⟨[]⟩) H2) : callD Try.prog 38 [.pointer (some ⟨s4, 1, none⟩), .agg ⟨s.cells⟩, .int .i64 0] H1 Q K := by
  refine call_of (put_okT (z := (s, 0)) (L := D) hD hs hl S) ?_
  rintro _ H2 ⟨rfl, p', c', S2⟩
  have e : D.length + 1 = (putP 1 (s, 0) D).length := by rw [putP_len]
  rw [e] at S2
  exact k p' c' H2 S2
end
end Go.Proofs.Ytobolifgehagfaa

set_option linter.unusedVariables false
set_option linter.unusedSimpArgs false
set_option linter.unnecessarySimpa false
namespace Go.Proofs.Ytobolifgehagfaa
open Go Go.Den Go.Proofs
/-! The reference's walk. -/
theorem appStrs {H : Heap} {l : List HP} {p q : Option Addr} {xs ys : List SE} {c : Nat} {m : List HP} {K : Option Addr → Nat → Nat → Heap → Prop} (S : Sat H l) (s : Sel (sl seC 9 1 p xs.length c xs) l m) (hq : RowsAt seC 1 H q ys) (hn : xs.length + ys.length ≤ 1000000)
    (k : ∀ p' c' H1, Sat H1 (sl seC 9 1 p' (xs ++ ys).length c' (xs ++ ys) :: m) → K p' (xs ++ ys).length c' H1) : apD H 1 16 [.string (ByteArray.mk #[])] 9 p xs.length c q ys.length K := by
  have S1 := S.bring s
  refine S1.slApp (ys := ys) (hq.cells fun _ => rfl) rfl (fun y hy => rfl) (fun v hv => ?_) rfl (by decide) (by omega) fun p' c' H1 S2 => ?_
  · obtain ⟨y, hy, hv⟩ := List.mem_flatMap.1 hv
    simp at hv; subst hv; rfl
  · rw [← List.length_append] at S2 ⊢
    exact k p' c' H1 S2
theorem appPcs {H : Heap} {l : List HP} {p q : Option Addr} {xs ys : List (SP × Int)} {c : Nat} {m : List HP} {K : Option Addr → Nat → Nat → Heap → Prop} (S : Sat H l) (s : Sel (sl pcC 71 6 p xs.length c xs) l m) (hq : RowsAt pcC 6 H q ys) (hn : xs.length + ys.length ≤ 1000000)
    (k : ∀ p' c' H1, Sat H1 (sl pcC 71 6 p' (xs ++ ys).length c' (xs ++ ys) :: m) → K p' (xs ++ ys).length c' H1) : apD H 6 64 pcZ 71 p xs.length c q ys.length K := by
  have S1 := S.bring s
  refine S1.slApp (ys := ys) (hq.cells fun _ => rfl) rfl (fun y hy => rfl) (fun v hv => ?_) rfl (by decide) (by omega) fun p' c' H1 S2 => ?_
  · obtain ⟨y, hy, hv⟩ := List.mem_flatMap.1 hv
    exact pc_isC y v hv
  · rw [← List.length_append] at S2 ⊢
    exact k p' c' H1 S2
theorem putsX_len : ∀ (l P : List SE), (l.foldl (fun l k => putX k l) P).length ≤ P.length + l.length
  | [], P => by simp
  | k :: l, P => by
    rw [List.foldl_cons, List.length_cons]
    have h1 := putsX_len l (putX k P)
    have h2 := putX_len (s := k) P
    omega
theorem putsX_sz : ∀ (l P : List SE), Szs l → Szs P → Szs (l.foldl (fun l k => putX k l) P)
  | [], P, _, h => h
  | k :: l, P, hl, h => by
    rw [List.foldl_cons]
    exact putsX_sz l _ (fun y hy => hl y (List.mem_cons_of_mem _ hy)) (h.put (hl k (List.mem_cons_self ..)))
theorem any_take {α : Type} {f : α → Bool} {xs : List α} {i : Nat} {x : α} (hx : xs[i]? = some x) (h : (xs.take i).any f = false) (h2 : f x = false) : (xs.take (i + 1)).any f = false := by
  rw [List.take_add_one, hx, List.any_append, h]
  simp [h2]
theorem any_hit {α : Type} {f : α → Bool} {xs : List α} {i : Nat} {x : α} (hx : xs[i]? = some x) (h2 : f x = true) : xs.any f = true := List.any_eq_true.2 ⟨x, List.mem_of_getElem? hx, h2⟩
section
variable {C : Type} {sub : SubP C} {sp : List C → Option Tch} {T : List C → Nat} {xs : List (RqF C)} {p : Option Addr} {n c : Nat} {H : Heap} {s2 s4 : Nat}
/-- The last of the three: keys that are put. -/
theorem phaseP (hs : Stays sub) (hR : RowsL sub H p n xs) (hT : totL T xs ≤ 200) {st0 : Tch} (h0 : xs.foldl (stepT sp) (some ([], putsK 1 [] (delsK xs))) = some st0) {D : List (SP × Int)} {pp : Option Addr} {cc : Nat} (hD : D.map keyX = st0.2) (hz : SzD D) (hl : D.length ≤ cntk 3 xs + sum4 T xs) :
    ∀ (k i : Nat) (q : Option Addr) (d : Nat) (P : List SE) (H1 : Heap), i + k = n → (xs.take i).foldl stepP (some st0) = some (P, st0.2) → Szs P → P.length ≤ sum4 T xs + cntk 2 (xs.take i) → Sat H1 (SpSt H s2 s4 q d pp cc P D) →
      F27.L2 s2 s4 p n c (n : Nat) (i : Nat) H1 (SpEnd (spL sp xs) (totL T xs) H) := by
  have hst := RowsL.ext hs
  have hlen := hR.2.1
  have hn := hR.1
  have b2 := sum4_cnt (T := T) (j := 2) (by decide) xs
  have b3 := sum4_cnt (T := T) (j := 3) (by decide) xs
  have hsp : spL sp xs = xs.foldl stepP (some st0) := by unfold spL; rw [h0]
  intro k
  induction k with
  | zero =>
    intro i q d P H1 hk hf hP hPl S
    obtain rfl : i = n := by omega
    rw [List.take_of_length_le (by omega)] at hf hPl
    refine F27.L2_step ?_
    unfold F27.L2n
    refine iteB_f (by simp) ?_
    (repeat (first | (refine Step.go ?_; intros) | refine iteB_t (by decide) ?_ | refine iteB_f (by decide) ?_ | (refine Duo.mk (by first | omega | exact rfl | decide) ?_; intros) | (refine Duo.mk (Clo.mk (by kernel_rfl)) ?_; intros)))
    rw [hsp, hf]
    refine ⟨((q, d), (pp, cc)), D, rfl, hD, hz, by show P.length ≤ _; omega, by omega, hP, Sat.to (by assumption) ?_⟩
    exact Fits.out (m := [_, _, old H])
  | succ k ih =>
    intro i q d P H1 hk hf hP hPl S
    obtain ⟨x, hx⟩ : ∃ x, xs[i]? = some x := get_of (by omega)
    have hxm := List.mem_of_getElem? hx
    have E : ExtH H H1 := Sat.grown
    obtain ⟨_, _, hrow, hmem⟩ := hst _ _ _ _ _ E hR
    have hxk := (hmem x hxm).1.1
    have hc2 := cnt_take (j := 2) hx
    have hc3 := cnt_le (j := 2) xs (i + 1)
    have hft := foldl_take (f := stepP) (b := some st0) hx
    rw [hf] at hft
    have bad : stepP (some (P, st0.2)) x = none → spL sp xs = none := by
      intro h
      rw [h] at hft
      have key : ∀ b, xs.foldl stepP b = (xs.drop (i + 1)).foldl stepP ((xs.take (i + 1)).foldl stepP b) := fun b => by rw [← List.foldl_append, List.take_append_drop]
      rw [hsp, key, hft, foldP_none]
    refine F27.L2_step ?_
    unfold F27.L2n
    refine iteB_t (by simp; omega) ?_
    refine copyQ S hrow hlen hx fun r H2 E2 S2 => ?_
    clear S
    have l4 : ∀ (q : Option Addr) (d : Nat) (P' : List SE) (H3 : Heap), stepP (some (P, st0.2)) x = some (P', st0.2) → Szs P' → P'.length ≤ P.length + (if x.k = 2 then 1 else 0) → Sat H3 (SpSt H s2 s4 q d pp cc P' D) → F27.L4 s2 s4 p n c (n : Nat) (i : Nat) H3 (SpEnd (spL sp xs) (totL T xs) H) := by
      intro q d P' H3 k1 k2 k3 S3
      refine F27.L4_step ?_
      unfold F27.L4n
      rw [wr64 (by omega) (by omega)]
      exact ih (i + 1) q d P' H3 (by omega) (by rw [hft]; exact k1) k2 (by omega) S3
    (repeat (first | (refine Step.go ?_; intros) | refine iteB_t (by decide) ?_ | refine iteB_f (by decide) ?_ | (refine Duo.mk (by first | omega | exact rfl | decide) ?_; intros) | (refine Duo.mk (Clo.mk (by kernel_rfl)) ?_; intros)))
    refine iteB_i (fun h => ?_) (fun h => ?_)
    · have h : ¬ x.k = 2 := by simpa using h
      exact l4 q d P H2 (by unfold stepP; rw [if_neg h]) hP (by omega) (S2.to Fits.out)
    have h : x.k = 2 := by simpa using h
    (repeat (first | (refine Step.go ?_; intros) | refine iteB_t (by decide) ?_ | refine iteB_f (by decide) ?_ | (refine Duo.mk (by first | omega | exact rfl | decide) ?_; intros) | (refine Duo.mk (Clo.mk (by kernel_rfl)) ?_; intros)))
    refine gives_i S2 (hasText_ok (s := x.key) (S2.rowsAt (f := seC) (E := 9) (z := 1) (xs := P) (p := q) (n := P.length) (k := d) (by simp)) rfl (by omega)) fun H3 E3 S3 => ?_
    clear S2
    (repeat (first | (refine Step.go ?_; intros) | refine iteB_t (by decide) ?_ | refine iteB_f (by decide) ?_ | (refine Duo.mk (by first | omega | exact rfl | decide) ?_; intros) | (refine Duo.mk (Clo.mk (by kernel_rfl)) ?_; intros)))
    refine iteB_i (fun h1 => ?_) (fun h1 => ?_)
    · have hno := bad (by unfold stepP; rw [if_pos h]; dsimp only; rw [h1, Bool.true_or, if_pos rfl])
      (repeat (first | (refine Step.go ?_; intros) | refine iteB_t (by decide) ?_ | refine iteB_f (by decide) ?_ | (refine Duo.mk (by first | omega | exact rfl | decide) ?_; intros) | (refine Duo.mk (Clo.mk (by kernel_rfl)) ?_; intros)))
      rw [hno]
      exact ⟨rfl, Sat.grown⟩
    (repeat (first | (refine Step.go ?_; intros) | refine iteB_t (by decide) ?_ | refine iteB_f (by decide) ?_ | (refine Duo.mk (by first | omega | exact rfl | decide) ?_; intros) | (refine Duo.mk (Clo.mk (by kernel_rfl)) ?_; intros)))
    refine gives_i S3 (clashes_ok (k := x.key) (D := D) (q := q) (m := P.length) (d := d) (c := cc) hxk hz (S3.at_ (by simp)) (S3.rowsAt (f := pcC) (E := 71) (z := 6) (xs := D.map plainX) (p := pp) (n := D.length) (k := cc) (by simp)) rfl (by omega)) fun H4 E4 S4 => ?_
    clear S3
    rw [hD]
    (repeat (first | (refine Step.go ?_; intros) | refine iteB_t (by decide) ?_ | refine iteB_f (by decide) ?_ | (refine Duo.mk (by first | omega | exact rfl | decide) ?_; intros) | (refine Duo.mk (Clo.mk (by kernel_rfl)) ?_; intros)))
    refine iteB_i (fun h2 => ?_) (fun h2 => ?_)
    · have hno := bad (by unfold stepP; rw [if_pos h]; dsimp only; rw [h1, h2, Bool.false_or, if_pos rfl])
      (repeat (first | (refine Step.go ?_; intros) | refine iteB_t (by decide) ?_ | refine iteB_f (by decide) ?_ | (refine Duo.mk (by first | omega | exact rfl | decide) ?_; intros) | (refine Duo.mk (Clo.mk (by kernel_rfl)) ?_; intros)))
      rw [hno]
      exact ⟨rfl, Sat.grown⟩
    refine F27.L3_step ?_
    unfold F27.L3n
    (repeat (first | (refine Step.go ?_; intros) | refine iteB_t (by decide) ?_ | refine iteB_f (by decide) ?_ | (refine Duo.mk (by first | omega | exact rfl | decide) ?_; intros) | (refine Duo.mk (Clo.mk (by kernel_rfl)) ?_; intros)))
    refine grow_i S4 (putText_ok (s := x.key) (S4.rowsAt (f := seC) (E := 9) (z := 1) (xs := P) (p := q) (n := P.length) (k := d) (by simp)) rfl (by omega)) ?_
    rintro ⟨q5, d5⟩ H5 E5 S5
    dsimp only at S5 ⊢
    simp only [List.cons_append, List.nil_append] at S5
    clear S4
    (repeat (first | (refine Step.go ?_; intros) | refine iteB_t (by decide) ?_ | refine iteB_f (by decide) ?_ | (refine Duo.mk (by first | omega | exact rfl | decide) ?_; intros) | (refine Duo.mk (Clo.mk (by kernel_rfl)) ?_; intros)))
    rename_i H6 S6
    have hpl := putX_len (s := x.key) P
    refine l4 q5 d5 (putX x.key P) H6 (by unfold stepP; rw [if_pos h]; dsimp only; rw [h1, h2, Bool.false_or, if_neg (by simp)]) (hP.put hxk) (by rw [if_pos h]; exact hpl) (S6.to ?_)
    iterate 4 (apply Ent.pick; (focus (repeat (first | exact Sel.here | apply Sel.there))))
    exact Fits.out
end
end Go.Proofs.Ytobolifgehagfaa

set_option linter.unusedVariables false
set_option linter.unusedSimpArgs false
set_option linter.unnecessarySimpa false
namespace Go.Proofs.Ytobolifgehagfaa
open Go Go.Den Go.Proofs
def spBad (k : SE) (st : Tch) : Bool := hasT k st.1 || clashK st.2 k
section
variable {C : Type} {sub : SubP C} {sp : List C → Option Tch} {T : List C → Nat} {xs : List (RqF C)} {p : Option Addr} {n c : Nat} {H : Heap} {s2 s4 : Nat}
/-- The pieces of a nested answer are put. -/
theorem phase8 {i : Nat} {r5 : Ending → Heap → Prop} {P : List SE} {q : Option Addr} {d : Nat} {K : List EP} {X : List (SP × Int)} {q5 : Option Addr} {d5 : Nat} (hX : SzD X) (hXl : X.length ≤ 1000)
    (next : ∀ (D : List (SP × Int)) (pp : Option Addr) (cc : Nat) (H1 : Heap), D.map keyX = putsK 1 K (X.map keyX) → SzD D → Sat H1 (SpSt H s2 s4 q d pp cc P D) → F27.L10 p n c s2 s4 p n c (n : Nat) (i : Nat) H1 r5) :
    ∀ (k j : Nat) (D : List (SP × Int)) (pp : Option Addr) (cc : Nat) (H1 : Heap), j + k = X.length → D.map keyX = putsK 1 K ((X.take j).map keyX) → SzD D → D.length ≤ 1000 + j → Sat H1 (sl pcC 71 6 q5 X.length d5 (X.map plainX) :: SpSt H s2 s4 q d pp cc P D) →
      F27.L8 p n c s2 s4 p n c (n : Nat) (i : Nat) q5 X.length d5 (X.length : Nat) (j : Nat) H1 r5 := by
  intro k
  induction k with
  | zero =>
    intro j D pp cc H1 hj hK hz hl S
    obtain rfl : j = X.length := by omega
    rw [List.take_length] at hK
    refine F27.L8_step ?_
    unfold F27.L8n
    refine iteB_f (by simp) ?_
    exact next D pp cc H1 hK hz (S.to Fits.out)
  | succ k ih =>
    intro j D pp cc H1 hj hK hz hl S
    obtain ⟨x, hx⟩ : ∃ x, X[j]? = some x := get_of (by omega)
    have hI : HasI (X.map plainX) ((j : Nat) : Int) (plainX x) := HasI.nat (by rw [List.getElem?_map, hx]; rfl)
    refine F27.L8_step ?_
    unfold F27.L8n
    refine iteB_t (by simp; omega) ?_
    refine Sat.idx (f := pcC) (E := 71) (z := 6) S ⟨by omega, by omega, fun ra oa ha => ?_⟩
    subst ha
    (repeat (first | (refine Step.go ?_; intros) | refine iteB_t (by decide) ?_ | refine iteB_f (by decide) ?_ | (refine Duo.mk (by first | omega | exact rfl | decide) ?_; intros) | (refine Duo.mk (Clo.mk (by kernel_rfl)) ?_; intros)))
    rename_i H2 S2
    refine put_St (s := (plainX x).1) (D := D) (p := pp) (c := cc) (P := P) (q := q) (d := d) (M := [sl pcC 71 6 (some ⟨ra, oa, none⟩) X.length d5 (X.map plainX), sl seC 9 1 q P.length d P, pt s2 (toO none 0 0 0 none 0 0), old H]) (hX x (List.mem_of_getElem? hx)) hz (by omega) (S2.to Fits.out) fun p' c' H3 S3 => ?_
    (repeat (first | (refine Step.go ?_; intros) | refine iteB_t (by decide) ?_ | refine iteB_f (by decide) ?_ | (refine Duo.mk (by first | omega | exact rfl | decide) ?_; intros) | (refine Duo.mk (Clo.mk (by kernel_rfl)) ?_; intros)))
    rw [wr64 (by omega) (by omega)]
    have et : (X.take (j + 1)).map keyX = (X.take j).map keyX ++ [keyX x] := by
      rw [List.take_add_one, hx, List.map_append]; rfl
    refine ih (j + 1) (putP 1 ((plainX x).1, 0) D) p' c' H3 (by omega) ?_ (hz.put (hX x (List.mem_of_getElem? hx))) (by rw [putP_len]; omega) (S3.to Fits.out)
    rw [et, putsK_snoc, ← hK, putP_key]
    rfl
/-- Its keys are put. -/
theorem phase7 {i : Nat} {r5 : Ending → Heap → Prop} {D : List (SP × Int)} {pp : Option Addr} {cc : Nat} {P : List SE} {Da Db : List (SP × Int)} {qa qb : Option Addr} {ea eb ra rb ua ub va vb : Nat} {pa pb : Option Addr} {W : List SE} {w : Option Addr} {wd : Nat} {K : List EP} (hW : Szs W) (hWl : W.length ≤ 1000) (hPl : P.length ≤ 1000) (hP : Szs P)
    (hDa : SzD Da) (hDb : SzD Db) (hal : Da.length ≤ 200) (hbl : Db.length ≤ 200) (hK : D.map keyX = K) (hz : SzD D) (hl : D.length ≤ 1000)
    (next : ∀ (q : Option Addr) (d : Nat) (D' : List (SP × Int)) (pp : Option Addr) (cc : Nat) (H1 : Heap), D'.map keyX = putsK 1 K ((Da ++ Db).map keyX) → SzD D' → Sat H1 (SpSt H s2 s4 q d pp cc (W.foldl (fun l k => putX k l) P) D') → F27.L10 p n c s2 s4 p n c (n : Nat) (i : Nat) H1 r5) :
    ∀ (k j : Nat) (q : Option Addr) (d : Nat) (H1 : Heap), j + k = W.length → Sat H1 (sl seC 9 1 w W.length wd W :: sl pcC 71 6 pa Da.length ua (Da.map plainX) :: sl pcC 71 6 pb Db.length ub (Db.map plainX) :: pt ra (toO qa ea va 1 pa Da.length ua) :: pt rb (toO qb eb vb 1 pb Db.length ub) :: SpSt H s2 s4 q d pp cc ((W.take j).foldl (fun l k => putX k l) P) D) →
      F27.L7 p n c s2 s4 ra rb p n c (n : Nat) (i : Nat) w W.length wd (W.length : Nat) (j : Nat) H1 r5 := by
  intro k
  induction k with
  | zero =>
    intro j q d H1 hj S
    obtain rfl : j = W.length := by omega
    rw [List.take_length] at S
    refine F27.L7_step ?_
    unfold F27.L7n
    refine iteB_f (by simp) ?_
    (repeat (first | (refine Step.go ?_; intros) | refine iteB_t (by decide) ?_ | refine iteB_f (by decide) ?_ | (refine Duo.mk (by first | omega | exact rfl | decide) ?_; intros) | (refine Duo.mk (Clo.mk (by kernel_rfl)) ?_; intros)))
    rename_i r H2 S2
    refine dupR S2 (S2.rowsAt (f := pcC) (E := 71) (z := 6) (xs := Da.map plainX) (p := pa) (n := Da.length) (k := ua) (by simp)) (by simp) (fun _ => rfl) pc_isC rfl (by decide) (by omega) fun p' c' H3 E3 S3 => ?_
    refine andD_i E3 ?_
    have el : Da.length = (Da.map plainX).length := by simp
    have el2 : Db.length = (Db.map plainX).length := by simp
    have S4 : Sat H3 (sl pcC 71 6 p' (Da.map plainX).length c' (Da.map plainX) :: sl pcC 71 6 pb (Db.map plainX).length ub (Db.map plainX) :: SpSt H s2 s4 q d pp cc (W.foldl (fun l k => putX k l) P) D) := by
      rw [← el, ← el2]
      exact S3.to Fits.out
    have key := appPcs (q := pb) (ys := Db.map plainX) S4 (.here) (S4.rowsAt (f := pcC) (E := 71) (z := 6) (xs := Db.map plainX) (p := pb) (n := (Db.map plainX).length) (k := ub) (.tail _ (.head _))) (by simp; omega) (K := fun q5 q5n q5c H5 => F27.L8 p n c s2 s4 p n c (n : Nat) (i : Nat) q5 q5n q5c ((q5n : Nat) : Int) (0 : Int) H5 r5) fun p2 c2 H4 S5 => ?_
    · rw [← el, ← el2] at key
      exact key
    · rw [← List.map_append] at S5 ⊢
      rw [List.length_map] at S5 ⊢
      exact phase8 (X := Da ++ Db) (K := K) (P := W.foldl (fun l k => putX k l) P) (q := q) (d := d) (fun x hx => (List.mem_append.1 hx).elim (hDa x) (hDb x)) (by simp; omega) (fun D' pp' cc' H' k1 k2 k3 => next q d D' pp' cc' H' k1 k2 k3) (Da ++ Db).length 0 D pp cc H4 (Nat.zero_add _) (by simpa [putsK] using hK) hz (by omega) (S5.to Fits.out)
  | succ k ih =>
    intro j q d H1 hj S
    obtain ⟨s, hs⟩ : ∃ s, W[j]? = some s := get_of (by omega)
    have hI := HasI.nat hs
    have hlen : ((W.take j).foldl (fun l k => putX k l) P).length ≤ 2000 := by
      have h1 := putsX_len (W.take j) P
      have h2 : (W.take j).length ≤ W.length := by rw [List.length_take]; omega
      omega
    refine F27.L7_step ?_
    unfold F27.L7n
    refine iteB_t (by simp; omega) ?_
    refine Sat.idx (f := seC) (E := 9) (z := 1) S ⟨by omega, by omega, fun r0 o0 hr => ?_⟩
    subst hr
    (repeat (first | (refine Step.go ?_; intros) | refine iteB_t (by decide) ?_ | refine iteB_f (by decide) ?_ | (refine Duo.mk (by first | omega | exact rfl | decide) ?_; intros) | (refine Duo.mk (Clo.mk (by kernel_rfl)) ?_; intros)))
    refine grow_i S (putText_ok (s := s) (S.rowsAt (f := seC) (E := 9) (z := 1) (xs := (W.take j).foldl (fun l k => putX k l) P) (p := q) (n := ((W.take j).foldl (fun l k => putX k l) P).length) (k := d) (by simp)) rfl (by omega)) ?_
    rintro ⟨q5, d5⟩ H5 E5 S5
    dsimp only at S5 ⊢
    simp only [List.cons_append, List.nil_append] at S5
    clear S
    (repeat (first | (refine Step.go ?_; intros) | refine iteB_t (by decide) ?_ | refine iteB_f (by decide) ?_ | (refine Duo.mk (by first | omega | exact rfl | decide) ?_; intros) | (refine Duo.mk (Clo.mk (by kernel_rfl)) ?_; intros)))
    rename_i H6 S6
    rw [wr64 (by omega) (by omega)]
    refine ih (j + 1) q5 d5 H6 (by omega) ?_
    rw [foldl_take hs]
    refine S6.to ?_
    iterate 9 (apply Ent.pick; (focus (repeat (first | exact Sel.here | apply Sel.there))))
    exact Fits.out
end
end Go.Proofs.Ytobolifgehagfaa

set_option linter.unusedVariables false
set_option linter.unusedSimpArgs false
set_option linter.unnecessarySimpa false
namespace Go.Proofs.Ytobolifgehagfaa
open Go Go.Den Go.Proofs
/-! The reference's walk: all of it. -/
section
variable {C : Type} {sub : SubP C} {sp : List C → Option Tch} {T : List C → Nat} {xs : List (RqF C)} {p : Option Addr} {n c : Nat} {H : Heap} {s2 s4 : Nat}
theorem phase6 {i : Nat} {r : Option Tch} {t : Nat} {D : List (SP × Int)} {pp : Option Addr} {cc : Nat} {P : List SE} {q : Option Addr} {d : Nat} {Da Db : List (SP × Int)} {qa qb : Option Addr} {ea eb ra rb ua ub va vb : Nat} {pa pb : Option Addr} {KS : List SE} {q3 : Option Addr} {d3 : Nat} {K : List EP} (hS : Szs KS) (hSl : KS.length ≤ 500) (hPl : P.length ≤ 1000) (hP : Szs P)
    (hDa : SzD Da) (hDb : SzD Db) (hal : Da.length ≤ 200) (hbl : Db.length ≤ 200) (hK : D.map keyX = K) (hz : SzD D) (hl : D.length ≤ 1000)
    (hbad : KS.any (fun k => spBad k (P, K)) = true → r = none)
    (next : KS.any (fun k => spBad k (P, K)) = false → ∀ (q : Option Addr) (d : Nat) (D' : List (SP × Int)) (pp : Option Addr) (cc : Nat) (H1 : Heap), D'.map keyX = putsK 1 K ((Da ++ Db).map keyX) → SzD D' → Sat H1 (SpSt H s2 s4 q d pp cc ((KS.foldl (fun l k => putX k l) []).foldl (fun l k => putX k l) P) D') → F27.L10 p n c s2 s4 p n c (n : Nat) (i : Nat) H1 (SpEnd r t H)) :
    ∀ (k j : Nat) (w : Option Addr) (wd : Nat) (H1 : Heap), j + k = KS.length → (KS.take j).any (fun k => spBad k (P, K)) = false → Sat H1 (sl seC 9 1 q3 KS.length d3 KS :: sl seC 9 1 w ((KS.take j).foldl (fun l k => putX k l) []).length wd ((KS.take j).foldl (fun l k => putX k l) []) :: sl pcC 71 6 pa Da.length ua (Da.map plainX) :: sl pcC 71 6 pb Db.length ub (Db.map plainX) :: pt ra (toO qa ea va 1 pa Da.length ua) :: pt rb (toO qb eb vb 1 pb Db.length ub) :: SpSt H s2 s4 q d pp cc P D) →
      F27.L6 p n c s2 s4 ra rb w ((KS.take j).foldl (fun l k => putX k l) []).length wd p n c (n : Nat) (i : Nat) q3 KS.length d3 (KS.length : Nat) (j : Nat) H1 (SpEnd r t H) := by
  intro k
  induction k with
  | zero =>
    intro j w wd H1 hj hb S
    obtain rfl : j = KS.length := by omega
    rw [List.take_length] at hb S ⊢
    have hWl := putsX_len KS []
    have hWz := putsX_sz KS [] hS (fun s h => by cases h)
    refine F27.L6_step ?_
    unfold F27.L6n
    refine iteB_f (by simp) ?_
    exact phase7 (W := KS.foldl (fun l k => putX k l) []) (K := K) (P := P) (D := D) hWz (by simp at hWl; omega) hPl hP hDa hDb hal hbl hK hz hl (next hb) (KS.foldl (fun l k => putX k l) []).length 0 q d H1 (by omega) (S.to (Ent.drop .refl))
  | succ k ih =>
    intro j w wd H1 hj hb S
    obtain ⟨s, hs⟩ : ∃ s, KS[j]? = some s := get_of (by omega)
    have hI := HasI.nat hs
    have hsz := hS s (List.mem_of_getElem? hs)
    have hWl := putsX_len (KS.take j) []
    have htl : (KS.take j).length ≤ KS.length := by rw [List.length_take]; omega
    refine F27.L6_step ?_
    unfold F27.L6n
    refine iteB_t (by simp; omega) ?_
    refine Sat.idx (f := seC) (E := 9) (z := 1) S ⟨by omega, by omega, fun r0 o0 hr => ?_⟩
    subst hr
    (repeat (first | (refine Step.go ?_; intros) | refine iteB_t (by decide) ?_ | refine iteB_f (by decide) ?_ | (refine Duo.mk (by first | omega | exact rfl | decide) ?_; intros) | (refine Duo.mk (Clo.mk (by kernel_rfl)) ?_; intros)))
    refine gives_i S (hasText_ok (s := s) (S.rowsAt (f := seC) (E := 9) (z := 1) (xs := P) (p := q) (n := P.length) (k := d) (by simp)) rfl (by omega)) fun H3 E3 S3 => ?_
    clear S
    (repeat (first | (refine Step.go ?_; intros) | refine iteB_t (by decide) ?_ | refine iteB_f (by decide) ?_ | (refine Duo.mk (by first | omega | exact rfl | decide) ?_; intros) | (refine Duo.mk (Clo.mk (by kernel_rfl)) ?_; intros)))
    refine iteB_i (fun h1 => ?_) (fun h1 => ?_)
    · have hno := hbad (any_hit hs (by unfold spBad; dsimp only; rw [h1, Bool.true_or]))
      (repeat (first | (refine Step.go ?_; intros) | refine iteB_t (by decide) ?_ | refine iteB_f (by decide) ?_ | (refine Duo.mk (by first | omega | exact rfl | decide) ?_; intros) | (refine Duo.mk (Clo.mk (by kernel_rfl)) ?_; intros)))
      subst hno
      exact ⟨rfl, Sat.grown⟩
    refine gives_i S3 (clashes_ok (k := s) (D := D) (q := q) (m := P.length) (d := d) (c := cc) hsz hz (S3.at_ (by simp)) (S3.rowsAt (f := pcC) (E := 71) (z := 6) (xs := D.map plainX) (p := pp) (n := D.length) (k := cc) (by simp)) rfl (by omega)) fun H4 E4 S4 => ?_
    clear S3
    rw [hK]
    (repeat (first | (refine Step.go ?_; intros) | refine iteB_t (by decide) ?_ | refine iteB_f (by decide) ?_ | (refine Duo.mk (by first | omega | exact rfl | decide) ?_; intros) | (refine Duo.mk (Clo.mk (by kernel_rfl)) ?_; intros)))
    refine iteB_i (fun h2 => ?_) (fun h2 => ?_)
    · have hno := hbad (any_hit hs (by unfold spBad; dsimp only; rw [h1, h2, Bool.false_or]))
      (repeat (first | (refine Step.go ?_; intros) | refine iteB_t (by decide) ?_ | refine iteB_f (by decide) ?_ | (refine Duo.mk (by first | omega | exact rfl | decide) ?_; intros) | (refine Duo.mk (Clo.mk (by kernel_rfl)) ?_; intros)))
      subst hno
      exact ⟨rfl, Sat.grown⟩
    refine F27.L9_step ?_
    unfold F27.L9n
    refine grow_i S4 (putText_ok (s := s) (S4.rowsAt (f := seC) (E := 9) (z := 1) (xs := (KS.take j).foldl (fun l k => putX k l) []) (p := w) (n := ((KS.take j).foldl (fun l k => putX k l) []).length) (k := wd) (.tail _ (.head _))) rfl (by simp at hWl; omega)) ?_
    rintro ⟨q5, d5⟩ H5 E5 S5
    dsimp only at S5 ⊢
    simp only [List.cons_append, List.nil_append] at S5
    clear S4
    (repeat (first | (refine Step.go ?_; intros) | refine iteB_t (by decide) ?_ | refine iteB_f (by decide) ?_ | (refine Duo.mk (by first | omega | exact rfl | decide) ?_; intros) | (refine Duo.mk (Clo.mk (by kernel_rfl)) ?_; intros)))
    rw [wr64 (by omega) (by omega)]
    have eW : (KS.take (j + 1)).foldl (fun l k => putX k l) [] = putX s ((KS.take j).foldl (fun l k => putX k l) []) := foldl_take (f := fun l k => putX k l) hs
    have := ih (j + 1) q5 d5 H5 (by omega) (any_take hs hb (by unfold spBad; dsimp only; rw [h1, h2]; rfl))
    rw [eW] at this
    refine this (S5.to ?_)
    iterate 10 (apply Ent.pick; (focus (repeat (first | exact Sel.here | apply Sel.there))))
    exact Fits.out
/-- The second of the three: transactions. -/
theorem phaseT (hs : Stays sub) (ih : SpOk sub sp T) (hR : RowsL sub H p n xs) (hT : totL T xs ≤ 200) :
    ∀ (k i : Nat) (q : Option Addr) (d : Nat) (pp : Option Addr) (cc : Nat) (P : List SE) (D : List (SP × Int)) (H1 : Heap), i + k = n → (xs.take i).foldl (stepT sp) (some ([], putsK 1 [] (delsK xs))) = some (P, D.map keyX) → Szs P → SzD D → P.length ≤ sum4 T (xs.take i) → D.length ≤ cntk 3 xs + sum4 T (xs.take i) → Sat H1 (SpSt H s2 s4 q d pp cc P D) →
      F27.L1 p n c s2 s4 p n c (n : Nat) (i : Nat) H1 (SpEnd (spL sp xs) (totL T xs) H) := by
  have hst := RowsL.ext hs
  have hlen := hR.2.1
  have hn := hR.1
  have b3 := sum4_cnt (T := T) (j := 3) (by decide) xs
  intro k
  induction k with
  | zero =>
    intro i q d pp cc P D H1 hk hf hP hz hPl hDl S
    obtain rfl : i = n := by omega
    rw [List.take_of_length_le (by omega)] at hf hPl hDl
    refine F27.L1_step ?_
    unfold F27.L1n
    refine iteB_f (by simp) ?_
    exact phaseP hs hR hT hf (D := D) (pp := pp) (cc := cc) rfl hz hDl i 0 q d P H1 (Nat.zero_add _) rfl hP (by omega) S
  | succ k ihk =>
    intro i q d pp cc P D H1 hk hf hP hz hPl hDl S
    obtain ⟨x, hx⟩ : ∃ x, xs[i]? = some x := get_of (by omega)
    have hxm := List.mem_of_getElem? hx
    have E : ExtH H H1 := Sat.grown
    obtain ⟨_, _, hrow, hmem⟩ := hst _ _ _ _ _ E hR
    have h4 := sum4_take (T := T) hx
    have h4l := sum4_le (T := T) xs (i + 1)
    have hft := foldl_take (f := stepT sp) (b := some ([], putsK 1 [] (delsK xs))) hx
    rw [hf] at hft
    have bad : stepT sp (some (P, D.map keyX)) x = none → spL sp xs = none := by
      intro h
      rw [h] at hft
      exact spL_badT hft
    refine F27.L1_step ?_
    unfold F27.L1n
    refine iteB_t (by simp; omega) ?_
    refine copyQ S hrow hlen hx fun r H2 E2 S2 => ?_
    clear S
    have l10 : ∀ (q : Option Addr) (d : Nat) (pp : Option Addr) (cc : Nat) (P' : List SE) (D' : List (SP × Int)) (H3 : Heap), stepT sp (some (P, D.map keyX)) x = some (P', D'.map keyX) → Szs P' → SzD D' → P'.length ≤ sum4 T (xs.take (i + 1)) → D'.length ≤ cntk 3 xs + sum4 T (xs.take (i + 1)) → Sat H3 (SpSt H s2 s4 q d pp cc P' D') → F27.L10 p n c s2 s4 p n c (n : Nat) (i : Nat) H3 (SpEnd (spL sp xs) (totL T xs) H) := by
      intro q d pp cc P' D' H3 k1 k2 k3 k4 k5 S3
      refine F27.L10_step ?_
      unfold F27.L10n
      rw [wr64 (by omega) (by omega)]
      exact ihk (i + 1) q d pp cc P' D' H3 (by omega) (by rw [hft]; exact k1) k2 k3 k4 k5 S3
    (repeat (first | (refine Step.go ?_; intros) | refine iteB_t (by decide) ?_ | refine iteB_f (by decide) ?_ | (refine Duo.mk (by first | omega | exact rfl | decide) ?_; intros) | (refine Duo.mk (Clo.mk (by kernel_rfl)) ?_; intros)))
    refine iteB_i (fun h => ?_) (fun h => ?_)
    · have h : ¬ x.k = 4 := by simpa using h
      rw [if_neg h] at h4
      exact l10 q d pp cc P D H2 (by unfold stepT; rw [if_neg h]) hP hz (by omega) (by omega) (S2.to Fits.out)
    have h : x.k = 4 := by simpa using h
    rw [if_pos h] at h4
    have hm4 := tot_mem (T := T) hxm h
    have hmx := (hst _ _ _ _ _ (E.trans E2) hR).2.2.2 x hxm
    (repeat (first | (refine Step.go ?_; intros) | refine iteB_t (by decide) ?_ | refine iteB_f (by decide) ?_ | (refine Duo.mk (by first | omega | exact rfl | decide) ?_; intros) | (refine Duo.mk (Clo.mk (by kernel_rfl)) ?_; intros)))
    refine call_of (ih x.T x.tp x.tn x.tc H2 hmx.2.2.1 (by omega)) ?_
    intro e H3 he
    cases ha : sp x.T with
    | none =>
      rw [ha] at he
      obtain ⟨rfl, E3⟩ := he
      have hno := bad (by unfold stepT; rw [if_pos h]; dsimp only; rw [ha])
      have S3 := S2.ext E3
      clear S2
      have E4 : ExtH H H3 := Sat.grown
      have hmx3 := (hst _ _ _ _ _ E4 hR).2.2.2 x hxm
      (repeat (first | (refine Step.go ?_; intros) | refine iteB_t (by decide) ?_ | refine iteB_f (by decide) ?_ | (refine Duo.mk (by first | omega | exact rfl | decide) ?_; intros) | (refine Duo.mk (Clo.mk (by kernel_rfl)) ?_; intros)))
      rename_i _ _ H4 S4
      have E4 : ExtH H H4 := Sat.grown
      have hmx3 := (hst _ _ _ _ _ E4 hR).2.2.2 x hxm
      refine call_of (ih x.E x.ep x.el x.ec H4 hmx3.2.2.2 (by omega)) ?_
      intro e H5 he
      cases hb : sp x.E with
      | none =>
        rw [hb] at he
        obtain ⟨rfl, E5⟩ := he
        have S5 := S4.ext E5
        (repeat (first | (refine Step.go ?_; intros) | refine iteB_t (by decide) ?_ | refine iteB_f (by decide) ?_ | (refine Duo.mk (by first | omega | exact rfl | decide) ?_; intros) | (refine Duo.mk (Clo.mk (by kernel_rfl)) ?_; intros)))
        rw [hno]
        exact ⟨rfl, Sat.grown⟩
      | some b =>
        rw [hb] at he
        obtain ⟨⟨⟨qb, eb⟩, ⟨pb, ub⟩⟩, Db, rfl, _, _, _, _, _, Sx⟩ := he
        have S5 := Sat.onto (m := [sl seC 9 1 qb b.1.length eb b.1, sl pcC 71 6 pb Db.length ub (Db.map plainX)]) Sx S4
        simp only [List.cons_append, List.nil_append] at S5
        (repeat (first | (refine Step.go ?_; intros) | refine iteB_t (by decide) ?_ | refine iteB_f (by decide) ?_ | (refine Duo.mk (by first | omega | exact rfl | decide) ?_; intros) | (refine Duo.mk (Clo.mk (by kernel_rfl)) ?_; intros)))
        rw [hno]
        exact ⟨rfl, Sat.grown⟩
    | some a =>
      rw [ha] at he
      obtain ⟨⟨⟨qa, ea⟩, ⟨pa, ua⟩⟩, Da, rfl, hDaK, hDaz, hal, hDal, hasz, Sx⟩ := he
      have S3 := Sat.onto (m := [sl seC 9 1 qa a.1.length ea a.1, sl pcC 71 6 pa Da.length ua (Da.map plainX)]) Sx S2
      simp only [List.cons_append, List.nil_append] at S3
      clear S2 Sx
      (repeat (first | (refine Step.go ?_; intros) | refine iteB_t (by decide) ?_ | refine iteB_f (by decide) ?_ | (refine Duo.mk (by first | omega | exact rfl | decide) ?_; intros) | (refine Duo.mk (Clo.mk (by kernel_rfl)) ?_; intros)))
      rename_i ra _ _ _ _ _ _ H4 S4
      have E4 : ExtH H H4 := Sat.grown
      have hmx3 := (hst _ _ _ _ _ E4 hR).2.2.2 x hxm
      clear S3
      refine call_of (ih x.E x.ep x.el x.ec H4 hmx3.2.2.2 (by omega)) ?_
      intro e H5 he
      cases hb : sp x.E with
      | none =>
        rw [hb] at he
        obtain ⟨rfl, E5⟩ := he
        have hno := bad (by unfold stepT; rw [if_pos h]; dsimp only; rw [ha, hb])
        have S5 := S4.ext E5
        (repeat (first | (refine Step.go ?_; intros) | refine iteB_t (by decide) ?_ | refine iteB_f (by decide) ?_ | (refine Duo.mk (by first | omega | exact rfl | decide) ?_; intros) | (refine Duo.mk (Clo.mk (by kernel_rfl)) ?_; intros)))
        rw [hno]
        exact ⟨rfl, Sat.grown⟩
      | some b =>
        rw [hb] at he
        obtain ⟨⟨⟨qb, eb⟩, ⟨pb, ub⟩⟩, Db, rfl, hDbK, hDbz, hbl, hDbl, hbsz, Sx⟩ := he
        have S5 := Sat.onto (m := [sl seC 9 1 qb b.1.length eb b.1, sl pcC 71 6 pb Db.length ub (Db.map plainX)]) Sx S4
        simp only [List.cons_append, List.nil_append] at S5
        clear S4 Sx
        (repeat (first | (refine Step.go ?_; intros) | refine iteB_t (by decide) ?_ | refine iteB_f (by decide) ?_ | (refine Duo.mk (by first | omega | exact rfl | decide) ?_; intros) | (refine Duo.mk (Clo.mk (by kernel_rfl)) ?_; intros)))
        rename_i rb _ _ _ _ _ _ H6 S6
        clear S5
        refine F27.L5_step ?_
        unfold F27.L5n
        (repeat (first | (refine Step.go ?_; intros) | refine iteB_t (by decide) ?_ | refine iteB_f (by decide) ?_ | (refine Duo.mk (by first | omega | exact rfl | decide) ?_; intros) | (refine Duo.mk (Clo.mk (by kernel_rfl)) ?_; intros)))
        rename_i r3 H7 S7
        refine dupR S7 (S7.rowsAt (f := seC) (E := 9) (z := 1) (xs := a.1) (p := qa) (n := a.1.length) (k := ea) (by simp)) rfl (fun _ => rfl) (fun y v hv => by simp at hv; subst hv; rfl) rfl (by decide) (by omega) fun p' c' H8 E8 S8 => ?_
        refine andD_i E8 ?_
        refine appStrs (q := qb) (ys := b.1) S8 (.here) (S8.rowsAt (f := seC) (E := 9) (z := 1) (xs := b.1) (p := qb) (n := b.1.length) (k := eb) (by simp)) (by omega) fun q9 d9 H9 S9 => ?_
        have hadd : stepT sp (some (P, D.map keyX)) x = addT a b (P, D.map keyX) := by unfold stepT; rw [if_pos h]; dsimp only; rw [ha, hb]
        refine phase6 (KS := a.1 ++ b.1) (K := D.map keyX) (D := D) (P := P) (pp := pp) (cc := cc) (q := q) (d := d) (Da := Da) (Db := Db) (qa := qa) (qb := qb) (ea := a.1.length) (eb := b.1.length) (va := ea) (vb := eb) (ua := ua) (ub := ub) (pa := pa) (pb := pb) (fun s hs' => (List.mem_append.1 hs').elim (hasz s) (hbsz s)) (by simp; omega) (by omega) hP hDaz hDbz (by omega) (by omega) rfl hz (by omega) ?_ ?_ (a.1 ++ b.1).length 0 none 0 H9 (Nat.zero_add _) rfl ?_
        · intro hany
          exact bad (by rw [hadd]; unfold addT; dsimp only; exact if_pos hany)
        · intro hany q' d' D' pp' cc' H' k1 k2 S'
          have l1 := putsX_len (a.1 ++ b.1) []
          have l2 := putsX_len ((a.1 ++ b.1).foldl (fun l k => putX k l) []) P
          have l3 : D'.length = D.length + (Da ++ Db).length := by
            have := congrArg List.length k1
            rw [List.length_map, putsK_len, List.length_map, List.length_map] at this
            exact this
          simp only [List.length_append, List.length_nil] at l1 l2 l3
          refine l10 q' d' pp' cc' ((((a.1 ++ b.1).foldl (fun l k => putX k l) []).foldl (fun l k => putX k l) P)) D' H' ?_ (putsX_sz _ _ (putsX_sz _ _ (fun s hs' => (List.mem_append.1 hs').elim (hasz s) (hbsz s)) (fun s hs' => by cases hs')) hP) k2 (by omega) (by omega) S'
          rw [hadd, k1, List.map_append, hDaK, hDbK]
          unfold addT
          dsimp only
          exact if_neg (by rw [show (a.1 ++ b.1).any (fun k => hasT k P || clashK (D.map keyX) k) = false from hany]; simp)
        · refine S9.to ?_
          apply Ent.pick
          · (repeat (first | exact Sel.here | apply Sel.there))
          refine Ent.slNil ?_
          iterate 8 (apply Ent.pick; (focus (repeat (first | exact Sel.here | apply Sel.there))))
          exact Fits.out
/-- The first of the three, and all. -/
theorem spec_step (hs : Stays sub) (ih : SpOk sub sp T) : SpOk (RowsL sub) (spL sp) (totL T) := by
  intro xs p n c H hR hT
  have hst := RowsL.ext hs
  have hlen := hR.2.1
  have hn := hR.1
  have b3 := sum4_cnt (T := T) (j := 3) (by decide) xs
  have S := Sat.start H
  refine F27.calls ?_
  unfold F27.go
  (repeat (first | (refine Step.go ?_; intros) | refine iteB_t (by decide) ?_ | refine iteB_f (by decide) ?_ | (refine Duo.mk (by first | omega | exact rfl | decide) ?_; intros) | (refine Duo.mk (Clo.mk (by kernel_rfl)) ?_; intros)))
  rename_i s2 _ _ s4 _ _ _ _ _ _ H1 S1
  have loop : ∀ (k i : Nat) (pp : Option Addr) (cc : Nat) (D : List (SP × Int)) (H1 : Heap), i + k = n → D.map keyX = putsK 1 [] (delsK (xs.take i)) → SzD D → Sat H1 (SpSt H s2 s4 none 0 pp cc [] D) →
      F27.L0 p n c s2 s4 p n c (n : Nat) (i : Nat) H1 (SpEnd (spL sp xs) (totL T xs) H) := by
    intro k
    induction k with
    | zero =>
      intro i pp cc D H1 hk hK hz S
      obtain rfl : i = n := by omega
      rw [List.take_of_length_le (by omega)] at hK
      refine F27.L0_step ?_
      unfold F27.L0n
      refine iteB_f (by simp) ?_
      have hl : D.length = cntk 3 xs := by
        have := congrArg List.length hK
        rw [List.length_map, putsK_len, dels_len] at this
        simpa using this
      exact phaseT hs ih hR hT i 0 none 0 pp cc [] D H1 (Nat.zero_add _) (by rw [hK]; rfl) (fun s h => by cases h) hz (by simp) (by omega) S
    | succ k ihk =>
      intro i pp cc D H1 hk hK hz S
      obtain ⟨x, hx⟩ : ∃ x, xs[i]? = some x := get_of (by omega)
      have hxm := List.mem_of_getElem? hx
      have E : ExtH H H1 := Sat.grown
      obtain ⟨_, _, hrow, hmem⟩ := hst _ _ _ _ _ E hR
      have hxk := (hmem x hxm).1.1
      have hdt := dels_take hx
      have hdl : D.length ≤ 300 := by
        have := congrArg List.length hK
        rw [List.length_map, putsK_len, dels_len] at this
        have h2 := cnt_le (j := 3) xs i
        simp at this
        omega
      refine F27.L0_step ?_
      unfold F27.L0n
      refine iteB_t (by simp; omega) ?_
      refine copyQ S hrow hlen hx fun r H2 E2 S2 => ?_
      clear S
      have l11 : ∀ (pp : Option Addr) (cc : Nat) (D' : List (SP × Int)) (H3 : Heap), D'.map keyX = putsK 1 [] (delsK (xs.take (i + 1))) → SzD D' → Sat H3 (SpSt H s2 s4 none 0 pp cc [] D') → F27.L11 p n c s2 s4 p n c (n : Nat) (i : Nat) H3 (SpEnd (spL sp xs) (totL T xs) H) := by
        intro pp cc D' H3 k1 k2 S3
        refine F27.L11_step ?_
        unfold F27.L11n
        rw [wr64 (by omega) (by omega)]
        exact ihk (i + 1) pp cc D' H3 (by omega) k1 k2 S3
      (repeat (first | (refine Step.go ?_; intros) | refine iteB_t (by decide) ?_ | refine iteB_f (by decide) ?_ | (refine Duo.mk (by first | omega | exact rfl | decide) ?_; intros) | (refine Duo.mk (Clo.mk (by kernel_rfl)) ?_; intros)))
      refine iteB_i (fun h => ?_) (fun h => ?_)
      · have h : x.k = 3 := by simpa using h
        rw [if_pos h] at hdt
        (repeat (first | (refine Step.go ?_; intros) | refine iteB_t (by decide) ?_ | refine iteB_f (by decide) ?_ | (refine Duo.mk (by first | omega | exact rfl | decide) ?_; intros) | (refine Duo.mk (Clo.mk (by kernel_rfl)) ?_; intros)))
        refine gives_i S2 (deleted_ok (x := x)) fun H3 E3 S3 => ?_
        clear S2
        (repeat (first | (refine Step.go ?_; intros) | refine iteB_t (by decide) ?_ | refine iteB_f (by decide) ?_ | (refine Duo.mk (by first | omega | exact rfl | decide) ?_; intros) | (refine Duo.mk (Clo.mk (by kernel_rfl)) ?_; intros)))
        refine put_St (s := delSp x) (D := D) (p := pp) (c := cc) (P := []) (q := none) (d := 0) (M := [pt s2 (toO none 0 0 0 none 0 0), old H]) hxk hz (by omega) (S3.to Fits.out) fun p' c' H4 S4 => ?_
        (repeat (first | (refine Step.go ?_; intros) | refine iteB_t (by decide) ?_ | refine iteB_f (by decide) ?_ | (refine Duo.mk (by first | omega | exact rfl | decide) ?_; intros) | (refine Duo.mk (Clo.mk (by kernel_rfl)) ?_; intros)))
        refine l11 p' c' (putP 1 (delSp x, 0) D) H4 ?_ (hz.put hxk) (S4.to ?_)
        · rw [hdt, putsK_snoc, ← hK, putP_key]
          rfl
        · apply Ent.pick
          · (repeat (first | exact Sel.here | apply Sel.there))
          refine Ent.slNil ?_
          exact Fits.out
      · have h : ¬ x.k = 3 := by simpa using h
        rw [if_neg h, List.append_nil] at hdt
        exact l11 pp cc D H2 (by rw [hdt]; exact hK) hz (S2.to Fits.out)
  refine loop n 0 none 0 [] H1 (by omega) (by simp [delsK, putsK]) (fun x h => by cases h) (S1.to ?_)
  apply Ent.pick
  · (repeat (first | exact Sel.here | apply Sel.there))
  refine Ent.slNil (Ent.slNil ?_)
  exact Fits.out
end
theorem spec_ok : ∀ f : Nat, SpOk (RowsQ f) (spO f) (tot f)
  | 0 => by
    intro xs p n c H hR _
    have hn : n = 0 := hR
    subst hn
    have S := Sat.start H
    refine F27.calls ?_
    unfold F27.go
    (repeat (first | (refine Step.go ?_; intros) | refine iteB_t (by decide) ?_ | refine iteB_f (by decide) ?_ | (refine Duo.mk (by first | omega | exact rfl | decide) ?_; intros) | (refine Duo.mk (Clo.mk (by kernel_rfl)) ?_; intros)))
    refine F27.L0_step ?_
    unfold F27.L0n
    refine iteB_f (by decide) ?_
    refine F27.L1_step ?_
    unfold F27.L1n
    refine iteB_f (by decide) ?_
    refine F27.L2_step ?_
    unfold F27.L2n
    refine iteB_f (by decide) ?_
    (repeat (first | (refine Step.go ?_; intros) | refine iteB_t (by decide) ?_ | refine iteB_f (by decide) ?_ | (refine Duo.mk (by first | omega | exact rfl | decide) ?_; intros) | (refine Duo.mk (Clo.mk (by kernel_rfl)) ?_; intros)))
    refine ⟨((none, 0), (none, 0)), [], rfl, rfl, (fun x h => by cases h), Nat.zero_le _, Nat.zero_le _, (fun x h => by cases h), Sat.to (by assumption) ?_⟩
    exact Ent.slNil (Ent.slNil (Fits.out (m := [old H])))
  | f + 1 => spec_step (RowsQ.ext f) (spec_ok f)
end Go.Proofs.Ytobolifgehagfaa

set_option linter.unusedVariables false
set_option linter.unusedSimpArgs false
set_option linter.unnecessarySimpa false
namespace Go.Proofs.Ytobolifgehagfaa
open Go Go.Den Go.Proofs
/-! What requests put and delete, as the program keeps it: maps of keys. -/
theorem mget_none {κ ν : Type} [DecidableEq κ] {k : κ} : ∀ {m : List (κ × ν)}, mget m k = none ↔ k ∉ m.map (·.1)
  | [] => by simp [mget]
  | (a, v) :: m => by
    rw [mget]
    by_cases h : k = a
    · subst h; simp
    · rw [if_neg h, mget_none (m := m)]; simp [h]
theorem mget_some {κ ν : Type} [DecidableEq κ] {k : κ} {v : ν} {m : List (κ × ν)} (h : mget m k = some v) : k ∈ m.map (·.1) := by
  refine Classical.byContradiction fun hn => ?_
  rw [mget_none.2 hn] at h
  cases h
theorem mset_keys {κ ν : Type} [DecidableEq κ] {k a : κ} {v : ν} : ∀ {m : List (κ × ν)}, a ∈ (mset m k v).map (·.1) ↔ a = k ∨ a ∈ m.map (·.1)
  | [] => by simp [mset]
  | (b, w) :: m => by
    rw [mset]
    by_cases h : k = b
    · subst h; simp
    · rw [if_neg h, List.map_cons, List.map_cons, List.mem_cons, List.mem_cons, mset_keys (m := m)]
      constructor
      · rintro (h | h | h)
        · exact .inr (.inl h)
        · exact .inl h
        · exact .inr (.inr h)
      · rintro (h | h | h)
        · exact .inr (.inl h)
        · exact .inl h
        · exact .inr (.inr h)
theorem mset_nodup {κ ν : Type} [DecidableEq κ] {k : κ} {v : ν} : ∀ {m : List (κ × ν)}, (m.map (·.1)).Nodup → ((mset m k v).map (·.1)).Nodup
  | [], _ => by simp [mset]
  | (b, w) :: m, h => by
    rw [mset]
    rw [List.map_cons, List.nodup_cons] at h
    by_cases hk : k = b
    · subst hk; rw [if_pos rfl, List.map_cons, List.nodup_cons]; exact h
    · rw [if_neg hk, List.map_cons, List.nodup_cons]
      refine ⟨fun h2 => ?_, mset_nodup h.2⟩
      rcases mset_keys.1 h2 with h2 | h2
      · exact hk h2.symm
      · exact h.1 h2
abbrev unitV (_ : Unit) : Value := .agg ⟨[]⟩
/-- A map that has just some keys. -/
structure MapS (m : List (SE × Unit)) (φ : SE → Prop) : Prop where
  nd : (m.map (·.1)).Nodup
  iff_ : ∀ k, k ∈ m.map (·.1) ↔ φ k
theorem MapS.put {m : List (SE × Unit)} {φ : SE → Prop} (h : MapS m φ) (k : SE) : MapS (mset m k ()) (fun a => a = k ∨ φ a) :=
  ⟨mset_nodup h.nd, fun a => by rw [mset_keys, h.iff_]⟩
theorem MapS.congr {m : List (SE × Unit)} {φ ψ : SE → Prop} (h : MapS m φ) (e : ∀ k, φ k ↔ ψ k) : MapS m ψ := ⟨h.nd, fun k => (h.iff_ k).trans (e k)⟩
theorem foldX_mem {k : SE} : ∀ {l P : List SE}, k ∈ l.foldl (fun l k => putX k l) P ↔ k ∈ l ∨ k ∈ P
  | [], P => by simp
  | x :: l, P => by
    rw [List.foldl_cons, foldX_mem (l := l), putX_mem, List.mem_cons]
    constructor
    · rintro (h | h | h)
      · exact .inl (.inr h)
      · exact .inl (.inl h)
      · exact .inr h
    · rintro ((h | h) | h)
      · exact .inr (.inl h)
      · exact .inl h
      · exact .inr (.inr h)
theorem foldX_ris : ∀ {l P : List SE}, Ris P → Ris (l.foldl (fun l k => putX k l) P)
  | [], P, h => h
  | x :: l, P, h => foldX_ris (l := l) (putX_ris h)
instance mapTP : MapT Try.prog 96 Value.string unitV (.agg ⟨[]⟩) := ⟨9, 198, by kernel_rfl, KeyT.string (by kernel_rfl), by kernel_rfl⟩
instance encU : EncV unitV (.agg ⟨[]⟩) () := ⟨rfl⟩
/-- An entry of such a map. -/
theorem ent_key {es : Array MapEntry} {clk : Nat} {m : List (SE × Unit)} (F : MpF Value.string unitV es clk m) {e : MapEntry} (h : e ∈ es.toList) : ∃ k, e.key = .string k ∧ e.val = .agg ⟨[]⟩ ∧ k ∈ m.map (·.1) := by
  have h1 : (e.key, e.val) ∈ es.toList.map (fun e => (e.key, e.val)) := List.mem_map_of_mem h
  rw [F.eq] at h1
  obtain ⟨x, hx, h2⟩ := List.mem_map.1 h1
  exact ⟨x.1, by injection h2 with a b; exact a.symm, by injection h2 with a b; exact b.symm, List.mem_map_of_mem hx⟩
def keyOf (e : MapEntry) : SE := match e.key with | .string k => k | _ => ⟨#[]⟩
theorem keys_of {es : Array MapEntry} {clk : Nat} {m : List (SE × Unit)} (F : MpF Value.string unitV es clk m) : es.toList.map keyOf = m.map (·.1) := by
  have h := congrArg (List.map fun p : Value × Value => (match p.1 with | .string k => k | _ => (⟨#[]⟩ : SE))) F.eq
  rw [List.map_map, List.map_map] at h
  exact h
end Go.Proofs.Ytobolifgehagfaa

set_option linter.unusedVariables false
set_option linter.unusedSimpArgs false
set_option linter.unnecessarySimpa false
namespace Go.Proofs.Ytobolifgehagfaa
open Go Go.Den Go.Proofs
/-! Keys of a nested transaction are taken over. -/
def g0 : PH := fun _ => none
theorem g0_sub (H : Heap) : PH.sub g0 (PH.of H) := fun b o e => by cases e
theorem affG (k : SE) : IsG g0 1 (.mk 180 (.string k)) (k, 0) := fun _ _ => IsE.aff (x := (k, 0))
theorem lt_snoc (a : ByteArray) : ltS a (a ++ ⟨#[0]⟩) = true := by
  have key : ∀ l : List UInt8, Op.bytesLess l (l ++ [0]) = true := by
    intro l
    induction l with
    | nil => rfl
    | cons a l ih =>
      rw [List.cons_append, Op.bytesLess, ih]
      simp
  unfold ltS
  rw [ByteArray.toList_eq, ByteArray.toList_eq]
  have e : (a ++ (⟨#[0]⟩ : ByteArray)).data.toList = a.data.toList ++ [0] := by rw [ByteArray.data_append, Array.toList_append]
  rw [e]
  exact key _
theorem ltPt {k : SE} (h : k.size ≠ 0) : ltE 1 (ptE k).1 (ptE k).2 = true := by
  unfold ltE ptE
  dsimp only
  rw [if_neg (by decide), if_neg (by rintro ⟨_, h2⟩; apply h2; rw [cat_size]; omega)]
  exact lt_snoc k
abbrev trIV (tp : Nat) : IV := .mk 136 (pA tp)
theorem nilM_T {tp : Nat} {k : Prop} (hk : k) : nilM Try.prog "Intersects" ⟨[IV.v (trIV tp)]⟩ k := ⟨by kernel_rfl, hk⟩
theorem nilM_U {tp : Nat} {k : Prop} (hk : k) : nilM Try.prog "Union" ⟨[IV.v (trIV tp)]⟩ k := ⟨by kernel_rfl, hk⟩
theorem nilM_V {tp : Nat} {k : Prop} (hk : k) : nilM Try.prog "Visit" ⟨[IV.v (trIV tp)]⟩ k := ⟨by kernel_rfl, hk⟩
abbrev dupV : Value := .iface 176 (.string eS5)
section
variable {H1 : Heap} {sr tp : Nat} {T : Tr} {K : List EP} {n : Int} {M : List HP} {k : SE}
theorem interK (hk0 : k.size ≠ 0) (hT : TrW T K) (S : Sat H1 (tr g0 1 sr sr T :: pt tp (treO (T.ref sr) n sr) :: pt sr senO :: M)) :
    CallsH Try.prog 143 ⟨[pA tp, .agg ⟨[.iface 180 (.string k), .iface 180 (.string (k ++ ⟨#[0]⟩))]⟩]⟩ H1 (Gives (.bool (clashK K k)) H1) := by
  have h := Intersects_ok (i := .mk 180 (.string k)) (j := .mk 180 (.string (k ++ ⟨#[0]⟩))) (affG k) (affG _) (trH_of S) (tp := tp) (n := n) ⟨S.at_ (by simp)⟩ ⟨S.at_ (by simp)⟩ (g0_sub H1)
  rw [isx_ok (B := (k, 0)) (E := (k ++ ⟨#[0]⟩, 0)) (ltPt hk0) T hT.wt.srt hT.wt.prop] at h
  have e : T.inL.any (meetI 1 (k, 0) (k ++ ⟨#[0]⟩, 0)) = clashK K k := by
    unfold clashK
    rw [← hT.key, List.any_map]
    congr 1
    funext it
    show (ltE 1 (k, 0) it.E && ltE 1 it.B (k ++ ⟨#[0]⟩, 0)) = (ltE 1 it.B (k ++ ⟨#[0]⟩, 0) && ltE 1 (k, 0) it.E)
    rw [Bool.and_comm]
  rw [e] at h
  exact h
end
section
variable {H : Heap} {s0 s90 : Option Addr} {s0n s0c s90n s90c : Nat} {s91 s92 : Int} {sr tp rm ra : Nat} {T : Tr} {K : List EP} {P : List SE} {nn : Int} {es : Array MapEntry} {clk : Nat} {ma : List (SE × Unit)} {s18 s21 : IV} {s20 : Option Nat} {R : Ending → Heap → Prop} {M : List HP}
theorem unseen_nil {es : Array MapEntry} : unseen es #[] = es.toList := by unfold unseen; simp
theorem loop5 (hT : TrW T K) (F : MpF Value.string unitV es clk ma) (hnd : (ma.map (·.1)).Nodup) (hz : ∀ k ∈ ma.map (·.1), k.size ≠ 0 ∧ k.size ≤ 140737488351232)
    (fail : ∀ H1, ExtH H H1 → (∃ k ∈ ma.map (·.1), spBad k (P, K) = true) → R (.returned (.tuple ⟨[.map none, IV.v (trIV tp), dupV]⟩)) H1)
    (next : ∀ (mm : List (SE × Unit)) (H1 : Heap), MapS mm (fun k => k ∈ P ∨ k ∈ ma.map (·.1)) → (∀ k ∈ ma.map (·.1), spBad k (P, K) = false) → Sat H1 (pt ra (.map es clk) :: mp Value.string unitV rm mm :: tr g0 1 sr sr T :: pt tp (treO (T.ref sr) nn sr) :: pt sr senO :: old H :: M) →
      valD Try.prog (Instr.range 96 (.map s20)) H1 (panK R) fun v6 H8 => tPtr v6 fun p => F80.L6 s0 s0n s0c (trIV tp) rm (some ra) s18 s21 s90 s90n s90c s91 s92 p H8 R) :
    ∀ (N : Nat) (ir : Nat) (seen : Array Nat) (Z : List SE) (mm : List (SE × Unit)) (H1 : Heap), (unseen es seen).length = N → (Z ++ (unseen es seen).map keyOf).Perm (ma.map (·.1)) → MapS mm (fun k => k ∈ P ∨ k ∈ Z) → (∀ k ∈ Z, spBad k (P, K) = false) →
      Sat H1 (pt ir (.mapIter (some ra) clk seen clk) :: pt ra (.map es clk) :: mp Value.string unitV rm mm :: tr g0 1 sr sr T :: pt tp (treO (T.ref sr) nn sr) :: pt sr senO :: old H :: M) →
      F80.L5 s0 s0n s0c (trIV tp) rm (some ra) s18 s20 s21 s90 s90n s90c s91 s92 (some ⟨ir, 0, none⟩) H1 R := by
  intro N
  induction N with
  | zero =>
    intro ir seen Z mm H1 hN hp hm hb S
    have hu : unseen es seen = [] := List.eq_nil_of_length_eq_zero hN
    rw [hu, List.map_nil, List.append_nil] at hp
    refine F80.L5_step ?_
    unfold F80.L5n
    refine rangeNext F S (fun _ => ?_) (fun a e b h => by rw [hu] at h; simp at h)
    (repeat (first | (refine Step.go ?_; intros) | refine iteB_t (by decide) ?_ | refine iteB_f (by decide) ?_ | (refine Duo.mk (by first | omega | exact rfl | decide) ?_; intros) | (refine Duo.mk (Clo.mk (by kernel_rfl)) ?_; intros)))
    refine next mm H1 (hm.congr fun k => by rw [hp.mem_iff]) (fun k hk => hb k (hp.mem_iff.2 hk)) (S.to (Ent.drop .refl))
  | succ N ih =>
    intro ir seen Z mm H1 hN hp hm hb S
    refine F80.L5_step ?_
    unfold F80.L5n
    refine rangeNext F S (fun h => by rw [h] at hN; simp at hN) (fun a e b h h2 H2 S2 => ?_)
    clear S
    have hes : e ∈ es.toList := by
      have : e ∈ unseen es seen := by rw [h]; simp
      unfold unseen at this
      exact (List.mem_filter.1 this).1
    obtain ⟨k, hk1, hk2, hk3⟩ := ent_key F hes
    have hko : keyOf e = k := by unfold keyOf; rw [hk1]
    rw [hk1, hk2]
    -- the key is none of those that came
    have hkz : k ∉ Z := by
      intro hz2
      have hnd2 := hp.nodup_iff.2 hnd
      rw [List.nodup_append] at hnd2
      exact hnd2.2.2 k hz2 k (by rw [h]; simp [hko]) rfl
    obtain ⟨z1, z2⟩ := hz k hk3
    (repeat (first | (refine Step.go ?_; intros) | refine iteB_t (by decide) ?_ | refine iteB_f (by decide) ?_ | (refine Duo.mk (by first | omega | exact rfl | decide) ?_; intros) | (refine Duo.mk (Clo.mk (by kernel_rfl)) ?_; intros)))
    refine rangeEntry F S2 hes ?_
    rw [hk1, hk2]
    (repeat (first | (refine Step.go ?_; intros) | refine iteB_t (by decide) ?_ | refine iteB_f (by decide) ?_ | (refine Duo.mk (by first | omega | exact rfl | decide) ?_; intros) | (refine Duo.mk (Clo.mk (by kernel_rfl)) ?_; intros)))
    refine Duo.mk (fun v hv => ?_) (fun hv => ?_)
    · have hkp : k ∈ P := by
        rcases (hm.iff_ k).1 (mget_some hv) with h | h
        · exact h
        · exact absurd h hkz
      (repeat (first | (refine Step.go ?_; intros) | refine iteB_t (by decide) ?_ | refine iteB_f (by decide) ?_ | (refine Duo.mk (by first | omega | exact rfl | decide) ?_; intros) | (refine Duo.mk (Clo.mk (by kernel_rfl)) ?_; intros)))
      exact fail _ Sat.grown ⟨k, hk3, by unfold spBad; rw [hasT_iff.2 hkp, Bool.true_or]⟩
    · have hkp : hasT k P = false := by
        cases h : hasT k P with
        | false => rfl
        | true => exact absurd ((hm.iff_ k).2 (.inl (hasT_iff.1 h))) (mget_none.1 hv)
      (repeat (first | (refine Step.go ?_; intros) | refine iteB_t (by decide) ?_ | refine iteB_f (by decide) ?_ | (refine Duo.mk (by first | omega | exact rfl | decide) ?_; intros) | (refine Duo.mk (Clo.mk (by kernel_rfl)) ?_; intros)))
      rename_i r4 H4 S4
      refine nilM_T ?_
      refine gives_i S4 (mkAffP z2) fun H5 E5 S5 => ?_
      clear S4 S2
      (repeat (first | (refine Step.go ?_; intros) | refine iteB_t (by decide) ?_ | refine iteB_f (by decide) ?_ | (refine Duo.mk (by first | omega | exact rfl | decide) ?_; intros) | (refine Duo.mk (Clo.mk (by kernel_rfl)) ?_; intros)))
      refine callI_i (f := 143) (by kernel_rfl) (by kernel_rfl) (by kernel_rfl) ?_
      have S6 : Sat H5 (tr g0 1 sr sr T :: pt tp (treO (T.ref sr) nn sr) :: pt sr senO :: pt ir (.mapIter (some ra) clk (seen.push e.born) clk) :: pt ra (.map es clk) :: mp Value.string unitV rm mm :: old H :: M) := by
        refine S5.to ?_
        iterate 6 (apply Ent.pick; (focus (repeat (first | exact Sel.here | apply Sel.there))))
        exact Ent.drop .refl
      clear S5
      refine gives_i S6 (interK z1 hT S6) fun H7 E7 S7 => ?_
      clear S6
      (repeat (first | (refine Step.go ?_; intros) | refine iteB_t (by decide) ?_ | refine iteB_f (by decide) ?_ | (refine Duo.mk (by first | omega | exact rfl | decide) ?_; intros) | (refine Duo.mk (Clo.mk (by kernel_rfl)) ?_; intros)))
      refine iteB_i (fun hc => ?_) (fun hc => ?_)
      · exact fail _ Sat.grown ⟨k, hk3, by unfold spBad; dsimp only; rw [hc, Bool.or_true]⟩
      · (repeat (first | (refine Step.go ?_; intros) | refine iteB_t (by decide) ?_ | refine iteB_f (by decide) ?_ | (refine Duo.mk (by first | omega | exact rfl | decide) ?_; intros) | (refine Duo.mk (Clo.mk (by kernel_rfl)) ?_; intros)))
        rename_i H8 S8
        have hp2 : (k :: Z ++ (unseen es (seen.push e.born)).map keyOf).Perm (ma.map (·.1)) := by
          refine List.Perm.trans ?_ hp
          rw [h, h2, List.map_append, List.map_append, List.map_cons, hko]
          show (k :: (Z ++ _)).Perm _
          rw [← List.append_assoc, ← List.append_assoc]
          exact List.perm_middle.symm
        refine ih ir (seen.push e.born) (k :: Z) (mset mm k ()) H8 (by rw [h2]; rw [h] at hN; simp at hN ⊢; omega) hp2 ((hm.put k).congr fun a => ?_) (fun a ha => ?_) ?_
        · rw [List.mem_cons]
          constructor
          · rintro (h | h | h)
            · exact .inr (.inl h)
            · exact .inl h
            · exact .inr (.inr h)
          · rintro (h | h | h)
            · exact .inr (.inl h)
            · exact .inl h
            · exact .inr (.inr h)
        · rcases List.mem_cons.1 ha with rfl | ha
          · unfold spBad; dsimp only; rw [hkp, hc]; rfl
          · exact hb a ha
        · refine S8.to ?_
          iterate 6 (apply Ent.pick; (focus (repeat (first | exact Sel.here | apply Sel.there))))
          exact .refl
end
end Go.Proofs.Ytobolifgehagfaa

set_option linter.unusedVariables false
set_option linter.unusedSimpArgs false
set_option linter.unnecessarySimpa false
namespace Go.Proofs.Ytobolifgehagfaa
open Go Go.Den Go.Proofs
/-! Keys and intervals of the other branch. -/
theorem perm_next {es : Array MapEntry} {seen seen' : Array Nat} {a b : List MapEntry} {e : MapEntry} {k : SE} {Z ks : List SE} (hko : keyOf e = k) (hp : (Z ++ (unseen es seen).map keyOf).Perm ks) (h : unseen es seen = a ++ e :: b) (h2 : unseen es seen' = a ++ b) : (k :: Z ++ (unseen es seen').map keyOf).Perm ks := by
  refine List.Perm.trans ?_ hp
  rw [h, h2, List.map_append, List.map_append, List.map_cons, hko]
  show (k :: (Z ++ _)).Perm _
  rw [← List.append_assoc, ← List.append_assoc]
  exact List.perm_middle.symm
theorem perm_fresh {es : Array MapEntry} {seen : Array Nat} {a b : List MapEntry} {e : MapEntry} {k : SE} {Z ks : List SE} (hnd : ks.Nodup) (hko : keyOf e = k) (hp : (Z ++ (unseen es seen).map keyOf).Perm ks) (h : unseen es seen = a ++ e :: b) : k ∉ Z := by
  intro hz2
  have hnd2 := hp.nodup_iff.2 hnd
  rw [List.nodup_append] at hnd2
  exact hnd2.2.2 k hz2 k (by rw [h]; simp [hko]) rfl
section
variable {H : Heap} {s0 s90 : Option Addr} {s0n s0c s90n s90c : Nat} {s91 s92 : Int} {sr tp rm ra rb : Nat} {T : Tr} {K : List EP} {P : List SE} {nn : Int} {es : Array MapEntry} {clk : Nat} {ma mb : List (SE × Unit)} {R : Ending → Heap → Prop}
  {sra tpa srb tpb : Nat} {Ta Tb : Tr} {Ka Kb : List EP}
theorem loop6 (hT : TrW T K) (hTa : TrW Ta Ka) (hTb : TrW Tb Kb) (hKa : ∀ z ∈ Ka, GoodK z) (hKb : ∀ z ∈ Kb, GoodK z) (hn : 0 ≤ nn ∧ nn ≤ 1000) (hal : Ka.length ≤ 1000) (hbl : Kb.length ≤ 1000) (F : MpF Value.string unitV es clk mb) (hnd : (mb.map (·.1)).Nodup) (hz : ∀ k ∈ mb.map (·.1), k.size ≠ 0 ∧ k.size ≤ 140737488351232)
    (hga : ∀ k ∈ ma.map (·.1), spBad k (P, K) = false)
    (fail : ∀ H1, ExtH H H1 → (∃ k ∈ mb.map (·.1), spBad k (P, K) = true) → R (.returned (.tuple ⟨[.map none, IV.v (trIV tp), dupV]⟩)) H1)
    (next : ∀ (mm : List (SE × Unit)) (T' : Tr) (H1 : Heap), MapS mm (fun k => k ∈ P ∨ k ∈ ma.map (·.1) ∨ k ∈ mb.map (·.1)) → (∀ k ∈ mb.map (·.1), spBad k (P, K) = false) → TrW T' (putsK 1 (putsK 1 K Ka) Kb) → Sat H1 [mp Value.string unitV rm mm, tr g0 1 sr sr T', pt tp (treO (T'.ref sr) (nn + (Ka.length : Int) + (Kb.length : Int)) sr), pt sr senO, old H] →
      F80.L8 s0 s0n s0c (trIV tp) rm s90 s90n s90c s91 s92 H1 R) :
    ∀ (N : Nat) (ir : Nat) (seen : Array Nat) (Z : List SE) (mm : List (SE × Unit)) (H1 : Heap), (unseen es seen).length = N → (Z ++ (unseen es seen).map keyOf).Perm (mb.map (·.1)) → MapS mm (fun k => k ∈ P ∨ k ∈ ma.map (·.1) ∨ k ∈ Z) → (∀ k ∈ Z, spBad k (P, K) = false) →
      Sat H1 [pt ir (.mapIter (some rb) clk seen clk), pt rb (.map es clk), mp Value.string unitV ra ma, mp Value.string unitV rm mm, tr g0 1 sr sr T, pt tp (treO (T.ref sr) nn sr), pt sr senO, tr g0 1 sra sra Ta, pt tpa (treO (Ta.ref sra) (Ka.length : Nat) sra), pt sra senO, tr g0 1 srb srb Tb, pt tpb (treO (Tb.ref srb) (Kb.length : Nat) srb), pt srb senO, old H] →
      F80.L6 s0 s0n s0c (trIV tp) rm (some ra) (trIV tpa) (trIV tpb) s90 s90n s90c s91 s92 (some ⟨ir, 0, none⟩) H1 R := by
  intro N
  induction N with
  | zero =>
    intro ir seen Z mm H1 hN hp hm hb S
    have hu : unseen es seen = [] := List.eq_nil_of_length_eq_zero hN
    rw [hu, List.map_nil, List.append_nil] at hp
    refine F80.L6_step ?_
    unfold F80.L6n
    refine rangeNext F S (fun _ => ?_) (fun a e b h => by rw [hu] at h; simp at h)
    (repeat (first | (refine Step.go ?_; intros) | refine iteB_t (by decide) ?_ | refine iteB_f (by decide) ?_ | (refine Duo.mk (by first | omega | exact rfl | decide) ?_; intros) | (refine Duo.mk (Clo.mk (by kernel_rfl)) ?_; intros)))
    refine nilM_U ?_
    refine gives_i S (mkAff _ _) fun H2 E2 S2 => ?_
    clear S
    (repeat (first | (refine Step.go ?_; intros) | refine iteB_t (by decide) ?_ | refine iteB_f (by decide) ?_ | (refine Duo.mk (by first | omega | exact rfl | decide) ?_; intros) | (refine Duo.mk (Clo.mk (by kernel_rfl)) ?_; intros)))
    refine callI_i (f := 147) (by kernel_rfl) (by kernel_rfl) (by kernel_rfl) ?_
    have S3 : Sat H2 (tr g0 1 sr sr T :: pt tp (treO (T.ref sr) nn sr) :: pt sr senO :: tr g0 1 sra sra Ta :: pt tpa (treO (Ta.ref sra) (Ka.length : Nat) sra) :: pt sra senO :: has g0 :: [tr g0 1 srb srb Tb, pt tpb (treO (Tb.ref srb) (Kb.length : Nat) srb), pt srb senO, mp Value.string unitV rm mm, old H]) := by
      have S4 : Sat H2 (has g0 :: _) := has_nothing S2
      refine S4.to ?_
      iterate 10 (apply Ent.pick; (focus (repeat (first | exact Sel.here | apply Sel.there))))
      exact Fits.out
    clear S2
    refine callD_i (Union_ok (i := .mk 180 (.string ⟨#[0]⟩)) (j := .mk 180 (.string ⟨#[]⟩)) (affG _) (affG _) (by omega) hT hTa hKa (by omega) S3) ?_
    rintro _ H4 ⟨rfl, T1, hT1, S5⟩
    clear S3
    (repeat (first | (refine Step.go ?_; intros) | refine iteB_t (by decide) ?_ | refine iteB_f (by decide) ?_ | (refine Duo.mk (by first | omega | exact rfl | decide) ?_; intros) | (refine Duo.mk (Clo.mk (by kernel_rfl)) ?_; intros)))
    refine nilM_U ?_
    refine gives_i S5 (mkAff _ _) fun H6 E6 S6 => ?_
    clear S5
    (repeat (first | (refine Step.go ?_; intros) | refine iteB_t (by decide) ?_ | refine iteB_f (by decide) ?_ | (refine Duo.mk (by first | omega | exact rfl | decide) ?_; intros) | (refine Duo.mk (Clo.mk (by kernel_rfl)) ?_; intros)))
    refine callI_i (f := 147) (by kernel_rfl) (by kernel_rfl) (by kernel_rfl) ?_
    have S7 : Sat H6 (tr g0 1 sr sr T1 :: pt tp (treO (T1.ref sr) (nn + (Ka.length : Int)) sr) :: pt sr senO :: tr g0 1 srb srb Tb :: pt tpb (treO (Tb.ref srb) (Kb.length : Nat) srb) :: pt srb senO :: has g0 :: [mp Value.string unitV rm mm, old H]) := by
      refine S6.to ?_
      iterate 7 (apply Ent.pick; (focus (repeat (first | exact Sel.here | apply Sel.there))))
      exact Fits.out
    clear S6
    refine callD_i (Union_ok (i := .mk 180 (.string ⟨#[0]⟩)) (j := .mk 180 (.string ⟨#[]⟩)) (affG _) (affG _) (by omega) hT1 hTb hKb (by omega) S7) ?_
    rintro _ H8 ⟨rfl, T2, hT2, S8⟩
    clear S7
    (repeat (first | (refine Step.go ?_; intros) | refine iteB_t (by decide) ?_ | refine iteB_f (by decide) ?_ | (refine Duo.mk (by first | omega | exact rfl | decide) ?_; intros) | (refine Duo.mk (Clo.mk (by kernel_rfl)) ?_; intros)))
    refine next mm T2 H8 (hm.congr fun k => by rw [hp.mem_iff]) (fun k hk => hb k (hp.mem_iff.2 hk)) hT2 (S8.to ?_)
    iterate 4 (apply Ent.pick; (focus (repeat (first | exact Sel.here | apply Sel.there))))
    exact Fits.out
  | succ N ih =>
    intro ir seen Z mm H1 hN hp hm hb S
    refine F80.L6_step ?_
    unfold F80.L6n
    refine rangeNext F S (fun h => by rw [h] at hN; simp at hN) (fun a e b h h2 H2 S2 => ?_)
    clear S
    have hes : e ∈ es.toList := by
      have : e ∈ unseen es seen := by rw [h]; simp
      unfold unseen at this
      exact (List.mem_filter.1 this).1
    obtain ⟨k, hk1, hk2, hk3⟩ := ent_key F hes
    have hko : keyOf e = k := by unfold keyOf; rw [hk1]
    have hkz := perm_fresh hnd hko hp h
    obtain ⟨z1, z2⟩ := hz k hk3
    have hp2 := perm_next (seen' := seen.push e.born) hko hp h h2
    have l7 : ∀ (H3 : Heap), hasT k P = false → Sat H3 [pt ir (.mapIter (some rb) clk (seen.push e.born) clk), pt rb (.map es clk), mp Value.string unitV ra ma, mp Value.string unitV rm mm, tr g0 1 sr sr T, pt tp (treO (T.ref sr) nn sr), pt sr senO, tr g0 1 sra sra Ta, pt tpa (treO (Ta.ref sra) (Ka.length : Nat) sra), pt sra senO, tr g0 1 srb srb Tb, pt tpb (treO (Tb.ref srb) (Kb.length : Nat) srb), pt srb senO, old H] →
        F80.L7 s0 s0n s0c (trIV tp) rm (some ra) (trIV tpa) (trIV tpb) k s90 s90n s90c s91 s92 (some ⟨ir, 0, none⟩) H3 R := by
      intro H3 hkp S3
      refine F80.L7_step ?_
      unfold F80.L7n
      refine nilM_T ?_
      refine gives_i S3 (mkAffP z2) fun H5 E5 S5 => ?_
      clear S3
      (repeat (first | (refine Step.go ?_; intros) | refine iteB_t (by decide) ?_ | refine iteB_f (by decide) ?_ | (refine Duo.mk (by first | omega | exact rfl | decide) ?_; intros) | (refine Duo.mk (Clo.mk (by kernel_rfl)) ?_; intros)))
      refine callI_i (f := 143) (by kernel_rfl) (by kernel_rfl) (by kernel_rfl) ?_
      have S6 : Sat H5 (tr g0 1 sr sr T :: pt tp (treO (T.ref sr) nn sr) :: pt sr senO :: [pt ir (.mapIter (some rb) clk (seen.push e.born) clk), pt rb (.map es clk), mp Value.string unitV ra ma, mp Value.string unitV rm mm, tr g0 1 sra sra Ta, pt tpa (treO (Ta.ref sra) (Ka.length : Nat) sra), pt sra senO, tr g0 1 srb srb Tb, pt tpb (treO (Tb.ref srb) (Kb.length : Nat) srb), pt srb senO, old H]) := by
        refine S5.to ?_
        iterate 7 (apply Ent.pick; (focus (repeat (first | exact Sel.here | apply Sel.there))))
        exact .refl
      clear S5
      refine gives_i S6 (interK z1 hT S6) fun H7 E7 S7 => ?_
      clear S6
      (repeat (first | (refine Step.go ?_; intros) | refine iteB_t (by decide) ?_ | refine iteB_f (by decide) ?_ | (refine Duo.mk (by first | omega | exact rfl | decide) ?_; intros) | (refine Duo.mk (Clo.mk (by kernel_rfl)) ?_; intros)))
      refine iteB_i (fun hc => ?_) (fun hc => ?_)
      · exact fail _ Sat.grown ⟨k, hk3, by unfold spBad; dsimp only; rw [hc, Bool.or_true]⟩
      · (repeat (first | (refine Step.go ?_; intros) | refine iteB_t (by decide) ?_ | refine iteB_f (by decide) ?_ | (refine Duo.mk (by first | omega | exact rfl | decide) ?_; intros) | (refine Duo.mk (Clo.mk (by kernel_rfl)) ?_; intros)))
        rename_i H8 S8
        refine ih ir (seen.push e.born) (k :: Z) (mset mm k ()) H8 (by rw [h2]; rw [h] at hN; simp at hN ⊢; omega) hp2 ((hm.put k).congr fun a => ?_) (fun a ha => ?_) ?_
        · rw [List.mem_cons]
          constructor
          · rintro (h | h | h | h)
            · exact .inr (.inr (.inl h))
            · exact .inl h
            · exact .inr (.inl h)
            · exact .inr (.inr (.inr h))
          · rintro (h | h | h | h)
            · exact .inr (.inl h)
            · exact .inr (.inr (.inl h))
            · exact .inl h
            · exact .inr (.inr (.inr h))
        · rcases List.mem_cons.1 ha with rfl | ha
          · unfold spBad; dsimp only; rw [hkp, hc]; rfl
          · exact hb a ha
        · refine S8.to ?_
          iterate 7 (apply Ent.pick; (focus (repeat (first | exact Sel.here | apply Sel.there))))
          exact .refl
    rw [hk1, hk2]
    (repeat (first | (refine Step.go ?_; intros) | refine iteB_t (by decide) ?_ | refine iteB_f (by decide) ?_ | (refine Duo.mk (by first | omega | exact rfl | decide) ?_; intros) | (refine Duo.mk (Clo.mk (by kernel_rfl)) ?_; intros)))
    refine rangeEntry F S2 hes ?_
    rw [hk1, hk2]
    (repeat (first | (refine Step.go ?_; intros) | refine iteB_t (by decide) ?_ | refine iteB_f (by decide) ?_ | (refine Duo.mk (by first | omega | exact rfl | decide) ?_; intros) | (refine Duo.mk (Clo.mk (by kernel_rfl)) ?_; intros)))
    refine Duo.mk (fun v hv => ?_) (fun hv => ?_)
    · (repeat (first | (refine Step.go ?_; intros) | refine iteB_t (by decide) ?_ | refine iteB_f (by decide) ?_ | (refine Duo.mk (by first | omega | exact rfl | decide) ?_; intros) | (refine Duo.mk (Clo.mk (by kernel_rfl)) ?_; intros)))
      rename_i r4 H4 S4
      clear S2
      refine Duo.mk (fun v2 hv2 => ?_) (fun hv2 => ?_)
      · (repeat (first | (refine Step.go ?_; intros) | refine iteB_t (by decide) ?_ | refine iteB_f (by decide) ?_ | (refine Duo.mk (by first | omega | exact rfl | decide) ?_; intros) | (refine Duo.mk (Clo.mk (by kernel_rfl)) ?_; intros)))
        rename_i r5 H5 S5
        have hbk := hga k (mget_some hv2)
        unfold spBad at hbk
        dsimp only at hbk
        rw [Bool.or_eq_false_iff] at hbk
        exact l7 H5 hbk.1 (S5.to Fits.out)
      · have hkp : k ∈ P := by
          rcases (hm.iff_ k).1 (mget_some hv) with h | h | h
          · exact h
          · exact absurd h (mget_none.1 hv2)
          · exact absurd h hkz
        (repeat (first | (refine Step.go ?_; intros) | refine iteB_t (by decide) ?_ | refine iteB_f (by decide) ?_ | (refine Duo.mk (by first | omega | exact rfl | decide) ?_; intros) | (refine Duo.mk (Clo.mk (by kernel_rfl)) ?_; intros)))
        exact fail _ Sat.grown ⟨k, hk3, by unfold spBad; rw [hasT_iff.2 hkp, Bool.true_or]⟩
    · have hkp : hasT k P = false := by
        cases h : hasT k P with
        | false => rfl
        | true => exact absurd ((hm.iff_ k).2 (.inl (hasT_iff.1 h))) (mget_none.1 hv)
      (repeat (first | (refine Step.go ?_; intros) | refine iteB_t (by decide) ?_ | refine iteB_f (by decide) ?_ | (refine Duo.mk (by first | omega | exact rfl | decide) ?_; intros) | (refine Duo.mk (Clo.mk (by kernel_rfl)) ?_; intros)))
      rename_i r4 H4 S4
      exact l7 H4 hkp (S4.to Fits.out)
end
end Go.Proofs.Ytobolifgehagfaa

set_option linter.unusedVariables false
set_option linter.unusedSimpArgs false
set_option linter.unnecessarySimpa false
namespace Go.Proofs.Ytobolifgehagfaa
open Go Go.Den Go.Proofs
/-! What the program makes of requests: the whole. -/
def goodL {C : Type} (G : List C → Prop) (xs : List (RqF C)) : Prop := ∀ x ∈ xs, SzQ x ∧ (x.k = 2 → x.key.size ≠ 0) ∧ (x.k = 3 → x.key.size ≠ 0 ∧ (x.en.size ≠ 0 → ltS x.key x.en = true)) ∧ (x.k = 4 → G x.T ∧ G x.E)
def good : (f : Nat) → List (RQ f) → Prop
  | 0 => fun _ => True
  | f + 1 => goodL (good f)
theorem good_of {H : Heap} : ∀ (f : Nat) {xs : List (RQ f)} {p : Option Addr} {n : Nat}, RowsQ f H p n xs → prop f xs → good f xs
  | 0, _, _, _, _, _ => trivial
  | f + 1, xs, p, n, h, hp => fun x hx => by
    obtain ⟨a, b, c, d⟩ := h.2.2.2 x hx
    obtain ⟨p1, p2, p3⟩ := hp x hx
    exact ⟨a, p1, fun h => ⟨(p2 h).1, fun he => ((p2 h).2 he).1⟩, fun h => ⟨good_of f c (p3 h).1, good_of f d (p3 h).2⟩⟩
theorem foldl_filter' {α β : Type} {f : β → α → β} {p : α → Bool} (h : ∀ b x, p x = false → f b x = b) : ∀ (l : List α) (b : β), (l.filter p).foldl f b = l.foldl f b
  | [], b => rfl
  | x :: l, b => by
    rw [List.filter_cons, List.foldl_cons]
    cases hp : p x with
    | true => rw [if_pos rfl, List.foldl_cons]; exact foldl_filter' h l _
    | false => rw [if_neg (by simp), h b x hp]; exact foldl_filter' h l _
theorem spL_known {C : Type} {sp : List C → Option Tch} (xs : List (RqF C)) : spL sp (known xs) = spL sp xs := by
  unfold spL known
  have e1 : delsK (xs.filter fun x => decide (1 ≤ x.k ∧ x.k ≤ 4)) = delsK xs := by
    unfold delsK
    rw [List.filter_filter]
    congr 1
    refine List.filter_congr fun x _ => ?_
    by_cases h : x.k = 3
    · rw [decide_eq_true h, Bool.true_and]; exact decide_eq_true (by omega)
    · rw [decide_eq_false h, Bool.false_and]
  rw [e1, foldl_filter' (f := stepT sp) (fun b x hx => by
    have := of_decide_eq_false hx
    unfold stepT
    rw [if_neg (by omega)]), foldl_filter' (f := stepP) (fun b x hx => by
    have := of_decide_eq_false hx
    unfold stepP
    rw [if_neg (by omega)])]
theorem tot_known {C : Type} {T : List C → Nat} : ∀ xs : List (RqF C), totL T (known xs) ≤ totL T xs
  | [] => Nat.le_refl _
  | x :: xs => by
    have ih := tot_known (T := T) xs
    unfold known totL at ih ⊢
    rw [List.filter_cons]
    split
    · rw [List.map_cons, List.map_cons, List.sum_cons, List.sum_cons]; omega
    · rw [List.map_cons, List.sum_cons]; omega
theorem All2.get {α β : Type} {R : α → β → Prop} : ∀ {l : List α} {m : List β} {i : Nat} {a : α}, All2 R l m → l[i]? = some a → ∃ b, m[i]? = some b ∧ R a b
  | _, _, i, a, .nil, h => by simp at h
  | _, _, 0, a, .cons h1 h2, h => by simp at h; subst h; exact ⟨_, rfl, h1⟩
  | _, _, i + 1, a, .cons h1 h2, h => by
    obtain ⟨b, e, r⟩ := h2.get (i := i) (a := a) (by simpa using h)
    exact ⟨b, by simpa using e, r⟩
def GoodP (P : List SE) : Prop := ∀ k ∈ P, k.size ≠ 0 ∧ k.size ≤ 140737488351232
def IvEnd (r : Option Tch) (t : Nat) (H : Heap) (e : Ending) (H1 : Heap) : Prop :=
  match r with
  | none => ∃ tp : Nat, e = .returned (.tuple ⟨[.map none, IV.v (trIV tp), dupV]⟩) ∧ ExtH H H1
  | some st => ∃ (mr tp sr : Nat) (m : List (SE × Unit)) (T : Tr), e = .returned (.tuple ⟨[.map (some mr), IV.v (trIV tp), .nilIface]⟩) ∧ MapS m (fun k => k ∈ st.1) ∧ TrW T st.2 ∧ GoodP st.1 ∧ (∀ z ∈ st.2, GoodK z) ∧ st.2.length ≤ t ∧
      Sat H1 ([mp Value.string unitV mr m, tr g0 1 sr sr T, pt tp (treO (T.ref sr) (st.2.length : Nat) sr), pt sr senO] ++ [old H])
def IvOk {C : Type} (so : SubO C) (sp : List C → Option Tch) (T : List C → Nat) (G : List C → Prop) : Prop := ∀ (xs : List C) (q : Option Addr) (n c : Nat) (H : Heap), so H xs q n → T xs ≤ 200 → G xs → CallsH Try.prog 80 ⟨[.slice q n c]⟩ H (IvEnd (sp xs) (T xs) H)
theorem goodD {C : Type} {x : RqF C} (hk : x.key.size ≠ 0) (he : x.en.size ≠ 0 → ltS x.key x.en = true) : GoodK (keyD x) := by
  unfold keyD keyX
  by_cases h : x.en.size = 0
  · have e : (delSp x).E = (x.key ++ ⟨#[0]⟩, 0) := by
      unfold SP.E SP.end_; dsimp only; rw [if_pos (decide_eq_true h)]
    refine ⟨hk, ?_, ?_⟩
    · show (delSp x).E.1.size ≠ 0
      rw [e]; show (x.key ++ (⟨#[0]⟩ : ByteArray)).size ≠ 0; rw [cat_size]; omega
    · show ltE 1 (x.key, 0) (delSp x).E = true
      rw [e]; exact ltPt hk
  · have e : (delSp x).E = (x.en, 0) := by
      unfold SP.E SP.end_; dsimp only; rw [if_neg (by simpa using h)]
    refine ⟨hk, ?_, ?_⟩
    · show (delSp x).E.1.size ≠ 0
      rw [e]; exact h
    · show ltE 1 (x.key, 0) (delSp x).E = true
      rw [e]
      unfold ltE
      rw [if_neg (by decide), if_neg (by rintro ⟨_, h2⟩; apply h2; dsimp only; omega)]
      exact he h
section
variable {C : Type} {so : SubO C} {sp : List C → Option Tch} {T : List C → Nat} {G : List C → Prop} {ys : List (RqF C)} {bs : List Nat} {q : Option Addr} {n c : Nat} {H : Heap} {sr tp rm : Nat}
theorem tr_has {H1 : Heap} {Tt : Tr} {nn : Int} {M : List HP} (S : Sat H1 (tr g0 1 sr sr Tt :: pt tp (treO (Tt.ref sr) nn sr) :: pt sr senO :: M)) : Sat H1 (tr g0 1 sr sr Tt :: pt tp (treO (Tt.ref sr) nn sr) :: pt sr senO :: has g0 :: M) := by
  have S4 : Sat H1 (has g0 :: _) := has_nothing S
  refine S4.to ?_
  iterate 3 (apply Ent.pick; (focus (repeat (first | exact Sel.here | apply Sel.there))))
  exact .refl
/-- The last: keys that are put. -/
theorem ivP (hrel : All2 (OpB so H) ys bs) (hrow : RowsAt ptC 1 H q bs) (hbl : bs.length = n) (hn : n ≤ 140737488351232) (hg : goodL G ys) {st0 : Tch} (h0 : ys.foldl (stepT sp) (some ([], putsK 1 [] (delsK ys))) = some st0) {Tt : Tr} (hT : TrW Tt st0.2) (hK : ∀ z ∈ st0.2, GoodK z) {t : Nat} (hl : st0.2.length ≤ t) :
    ∀ (k i : Nat) (mm : List (SE × Unit)) (P : List SE) (H1 : Heap), i + k = n → (ys.take i).foldl stepP (some st0) = some (P, st0.2) → MapS mm (fun k => k ∈ P) → GoodP P → Sat H1 [mp Value.string unitV rm mm, tr g0 1 sr sr Tt, pt tp (treO (Tt.ref sr) (st0.2.length : Nat) sr), pt sr senO, old H] →
      F80.L2 (trIV tp) rm q n c (n : Nat) (i : Nat) H1 (IvEnd (spL sp ys) t H) := by
  have hsp : spL sp ys = ys.foldl stepP (some st0) := by unfold spL; rw [h0]
  have hyl : ys.length = n := by rw [← hbl]; exact hrel.len
  have R : RowsC H q ptC 1 bs := ⟨hrow⟩
  intro k
  induction k with
  | zero =>
    intro i mm P H1 hk hf hm hP S
    obtain rfl : i = n := by omega
    rw [List.take_of_length_le (by omega)] at hf
    refine F80.L2_step ?_
    unfold F80.L2n
    refine iteB_f (by simp) ?_
    rw [hsp, hf]
    exact ⟨rm, tp, sr, mm, Tt, rfl, hm, hT, hP, hK, hl, S⟩
  | succ k ih =>
    intro i mm P H1 hk hf hm hP S
    obtain ⟨y, hy⟩ : ∃ y, ys[i]? = some y := get_of (by omega)
    obtain ⟨b, hb, hop⟩ := hrel.get hy
    have hgy := hg y (List.mem_of_getElem? hy)
    have hI := HasI.nat hb
    obtain ⟨t1, r1, p1, ho1, hcase⟩ := hop
    have A1 := atOld ho1
    have hft := foldl_take (f := stepP) (b := some st0) hy
    rw [hf] at hft
    have bad : stepP (some (P, st0.2)) y = none → spL sp ys = none := by
      intro h
      rw [h] at hft
      have key : ∀ b, ys.foldl stepP b = (ys.drop (i + 1)).foldl stepP ((ys.take (i + 1)).foldl stepP b) := fun b => by rw [← List.foldl_append, List.take_append_drop]
      rw [hsp, key, hft, foldP_none]
    refine F80.L2_step ?_
    unfold F80.L2n
    refine iteB_t (by simp; omega) ?_
    refine RowsC.idx R hbl ⟨by omega, by omega, fun a ha => ?_⟩
    have R' : RowsC H (some a) ptC 1 bs := ⟨by rw [← ha]; exact hrow⟩
    have l4 : ∀ (mm : List (SE × Unit)) (P' : List SE) (H3 : Heap), stepP (some (P, st0.2)) y = some (P', st0.2) → MapS mm (fun k => k ∈ P') → GoodP P' → Sat H3 [mp Value.string unitV rm mm, tr g0 1 sr sr Tt, pt tp (treO (Tt.ref sr) (st0.2.length : Nat) sr), pt sr senO, old H] → F80.L4 (trIV tp) rm q n c (n : Nat) (i : Nat) H3 (IvEnd (spL sp ys) t H) := by
      intro mm P' H3 k1 k2 k3 S3
      refine F80.L4_step ?_
      unfold F80.L4n
      rw [wr64 (by omega) (by omega)]
      exact ih (i + 1) mm P' H3 (by omega) (by rw [hft]; exact k1) k2 k3 S3
    (repeat (first | (refine Step.go ?_; intros) | refine iteB_t (by decide) ?_ | refine iteB_f (by decide) ?_ | (refine Duo.mk (by first | omega | exact rfl | decide) ?_; intros) | (refine Duo.mk (Clo.mk (by kernel_rfl)) ?_; intros)))
    have other : t1 ≠ 167 → y.k ≠ 2 → valD Try.prog (Instr.typeAssert (IV.v (.mk t1 (pA r1))) 20 167 true) H1 (panK (IvEnd (spL sp ys) t H)) (fun v H1 => tTup v fun l => tCons l fun c1 l1 => tPtr c1 fun p1 => tCons l1 fun c2 l2 => tBool c2 fun b => tNil l2 <| iteB (!b) (F80.L4 (trIV tp) rm q n c (n : Nat) (i : Nat) H1 (IvEnd (spL sp ys) t H)) <| nilD p1 fun a2 => ldPtr H1 a2 fun p2 => iteB (Option.isNone p2) (F80.L4 (trIV tp) rm q n c (n : Nat) (i : Nat) H1 (IvEnd (spL sp ys) t H)) <| F80.L3 (trIV tp) rm p1 q n c (n : Nat) (i : Nat) H1 (IvEnd (spL sp ys) t H)) := by
      intro h1 h2
      refine assertOk_ne (z := .pointer none) h1 (by kernel_rfl) (by kernel_rfl) ?_
      (repeat (first | (refine Step.go ?_; intros) | refine iteB_t (by decide) ?_ | refine iteB_f (by decide) ?_ | (refine Duo.mk (by first | omega | exact rfl | decide) ?_; intros) | (refine Duo.mk (Clo.mk (by kernel_rfl)) ?_; intros)))
      exact l4 mm P H1 (by unfold stepP; rw [if_neg h2]) hm hP S
    rcases hcase with ⟨k1, k2⟩ | ⟨k1, k2, k3, kb, kc, vb, vc, k4, k5⟩ | ⟨k1, k2, k3, k4⟩ | ⟨k1, k2, k3, k4⟩
    · exact other (by rw [k2]; decide) (by omega)
    · subst k2
      refine assertOk_same (by kernel_rfl) ?_
      have A3 := atOld k3
      have A4 := atOld k4
      (repeat (first | (refine Step.go ?_; intros) | refine iteB_t (by decide) ?_ | refine iteB_f (by decide) ?_ | (refine Duo.mk (by first | omega | exact rfl | decide) ?_; intros) | (refine Duo.mk (Clo.mk (by kernel_rfl)) ?_; intros)))
      refine F80.L3_step ?_
      unfold F80.L3n
      (repeat (first | (refine Step.go ?_; intros) | refine iteB_t (by decide) ?_ | refine iteB_f (by decide) ?_ | (refine Duo.mk (by first | omega | exact rfl | decide) ?_; intros) | (refine Duo.mk (Clo.mk (by kernel_rfl)) ?_; intros)))
      have E1 : ExtH H H1 := Sat.grown
      refine bsD_of (s := y.key) rfl (cellsAt_ext k5 E1) ?_
      obtain ⟨z1, z2⟩ : y.key.size ≠ 0 ∧ y.key.size ≤ 140737488351232 := ⟨hgy.2.1 k1, hgy.1.1⟩
      refine Step.go ?_
      refine Duo.mk (fun v hv => ?_) (fun hv => ?_)
      · have hno := bad (by unfold stepP; rw [if_pos k1]; dsimp only; rw [hasT_iff.2 ((hm.iff_ _).1 (mget_some hv)), Bool.true_or, if_pos rfl])
        (repeat (first | (refine Step.go ?_; intros) | refine iteB_t (by decide) ?_ | refine iteB_f (by decide) ?_ | (refine Duo.mk (by first | omega | exact rfl | decide) ?_; intros) | (refine Duo.mk (Clo.mk (by kernel_rfl)) ?_; intros)))
        rw [hno]
        exact ⟨tp, rfl, Sat.grown⟩
      · have hkp : hasT y.key P = false := by
          cases h : hasT y.key P with
          | false => rfl
          | true => exact absurd ((hm.iff_ _).2 (hasT_iff.1 h)) (mget_none.1 hv)
        (repeat (first | (refine Step.go ?_; intros) | refine iteB_t (by decide) ?_ | refine iteB_f (by decide) ?_ | (refine Duo.mk (by first | omega | exact rfl | decide) ?_; intros) | (refine Duo.mk (Clo.mk (by kernel_rfl)) ?_; intros)))
        rename_i r4 H4 S4
        refine nilM_T ?_
        refine gives_i S4 (mkAffP z2) fun H5 E5 S5 => ?_
        clear S4 S
        (repeat (first | (refine Step.go ?_; intros) | refine iteB_t (by decide) ?_ | refine iteB_f (by decide) ?_ | (refine Duo.mk (by first | omega | exact rfl | decide) ?_; intros) | (refine Duo.mk (Clo.mk (by kernel_rfl)) ?_; intros)))
        refine callI_i (f := 143) (by kernel_rfl) (by kernel_rfl) (by kernel_rfl) ?_
        have S6 : Sat H5 (tr g0 1 sr sr Tt :: pt tp (treO (Tt.ref sr) (st0.2.length : Nat) sr) :: pt sr senO :: [mp Value.string unitV rm mm, old H]) := S5.to Fits.out
        clear S5
        refine gives_i S6 (interK z1 hT S6) fun H7 E7 S7 => ?_
        clear S6
        (repeat (first | (refine Step.go ?_; intros) | refine iteB_t (by decide) ?_ | refine iteB_f (by decide) ?_ | (refine Duo.mk (by first | omega | exact rfl | decide) ?_; intros) | (refine Duo.mk (Clo.mk (by kernel_rfl)) ?_; intros)))
        refine iteB_i (fun hc => ?_) (fun hc => ?_)
        · have hno := bad (by unfold stepP; rw [if_pos k1]; dsimp only; rw [hkp, hc, Bool.false_or, if_pos rfl])
          rw [hno]
          exact ⟨tp, rfl, Sat.grown⟩
        · (repeat (first | (refine Step.go ?_; intros) | refine iteB_t (by decide) ?_ | refine iteB_f (by decide) ?_ | (refine Duo.mk (by first | omega | exact rfl | decide) ?_; intros) | (refine Duo.mk (Clo.mk (by kernel_rfl)) ?_; intros)))
          rename_i H8 S8
          refine l4 (mset mm y.key ()) (putX y.key P) H8 (by unfold stepP; rw [if_pos k1]; dsimp only; rw [hkp, hc, Bool.false_or, if_neg (by simp)]) ((hm.put y.key).congr fun a => putX_mem.symm) (fun a ha => ?_) (S8.to Fits.out)
          rcases putX_mem.1 ha with rfl | ha
          · exact ⟨z1, z2⟩
          · exact hP a ha
    · exact other (by rw [k2]; decide) (by omega)
    · exact other (by rw [k2]; decide) (by omega)
end
end Go.Proofs.Ytobolifgehagfaa

set_option linter.unusedVariables false
set_option linter.unusedSimpArgs false
set_option linter.unnecessarySimpa false
namespace Go.Proofs.Ytobolifgehagfaa
open Go Go.Den Go.Proofs
/-! What the program makes of requests: transactions, deletes. -/
section
variable {C : Type} {so : SubO C} {sp : List C → Option Tch} {T : List C → Nat} {G : List C → Prop} {ys : List (RqF C)} {bs : List Nat} {q : Option Addr} {n c : Nat} {H : Heap} {sr tp rm : Nat}
theorem spB {k : SE} {st : Tch} {l : List SE} (h : ∃ x ∈ l, spBad x st = true) : l.any (fun k => hasT k st.1 || clashK st.2 k) = true := by
  obtain ⟨x, h1, h2⟩ := h
  exact List.any_eq_true.2 ⟨x, h1, h2⟩
theorem ivT (hso : StaysO so) (ih : IvOk so sp T G) (hrel : All2 (OpB so H) ys bs) (hrow : RowsAt ptC 1 H q bs) (hbl : bs.length = n) (hn : n ≤ 140737488351232) (hg : goodL G ys) (ht : totL T ys ≤ 200) :
    ∀ (k i : Nat) (mm : List (SE × Unit)) (P : List SE) (K : List EP) (Tt : Tr) (H1 : Heap), i + k = n → (ys.take i).foldl (stepT sp) (some ([], putsK 1 [] (delsK ys))) = some (P, K) → MapS mm (fun k => k ∈ P) → GoodP P → TrW Tt K → (∀ z ∈ K, GoodK z) → K.length ≤ cntk 3 ys + sum4 T (ys.take i) →
      Sat H1 [mp Value.string unitV rm mm, tr g0 1 sr sr Tt, pt tp (treO (Tt.ref sr) (K.length : Nat) sr), pt sr senO, old H] →
      F80.L1 q n c (trIV tp) rm q n c (n : Nat) (i : Nat) H1 (IvEnd (spL sp ys) (totL T ys) H) := by
  have hyl : ys.length = n := by rw [← hbl]; exact hrel.len
  have R : RowsC H q ptC 1 bs := ⟨hrow⟩
  have b3 := sum4_cnt (T := T) (j := 3) (by decide) ys
  intro k
  induction k with
  | zero =>
    intro i mm P K Tt H1 hk hf hm hP hT hK hl S
    obtain rfl : i = n := by omega
    rw [List.take_of_length_le (by omega)] at hf hl
    refine F80.L1_step ?_
    unfold F80.L1n
    refine iteB_f (by simp) ?_
    exact ivP (st0 := (P, K)) hrel hrow hbl hn hg hf hT hK (by show K.length ≤ _; omega) i 0 mm P H1 (Nat.zero_add _) rfl hm hP S
  | succ k ihk =>
    intro i mm P K Tt H1 hk hf hm hP hT hK hl S
    obtain ⟨y, hy⟩ : ∃ y, ys[i]? = some y := get_of (by omega)
    have hym := List.mem_of_getElem? hy
    obtain ⟨b, hb, hop⟩ := hrel.get hy
    have hgy := hg y hym
    have hI := HasI.nat hb
    obtain ⟨t1, r1, p1, ho1, hcase⟩ := hop
    have A1 := atOld ho1
    have h4 := sum4_take (T := T) hy
    have h4l := sum4_le (T := T) ys (i + 1)
    have hft := foldl_take (f := stepT sp) (b := some ([], putsK 1 [] (delsK ys))) hy
    rw [hf] at hft
    have bad : stepT sp (some (P, K)) y = none → spL sp ys = none := by
      intro h
      rw [h] at hft
      exact spL_badT hft
    refine F80.L1_step ?_
    unfold F80.L1n
    refine iteB_t (by simp; omega) ?_
    refine RowsC.idx R hbl ⟨by omega, by omega, fun a ha => ?_⟩
    have R' : RowsC H (some a) ptC 1 bs := ⟨by rw [← ha]; exact hrow⟩
    have l8 : ∀ (mm : List (SE × Unit)) (P' : List SE) (K' : List EP) (T' : Tr) (H3 : Heap), stepT sp (some (P, K)) y = some (P', K') → MapS mm (fun k => k ∈ P') → GoodP P' → TrW T' K' → (∀ z ∈ K', GoodK z) → K'.length ≤ cntk 3 ys + sum4 T (ys.take (i + 1)) → Sat H3 [mp Value.string unitV rm mm, tr g0 1 sr sr T', pt tp (treO (T'.ref sr) (K'.length : Nat) sr), pt sr senO, old H] → F80.L8 q n c (trIV tp) rm q n c (n : Nat) (i : Nat) H3 (IvEnd (spL sp ys) (totL T ys) H) := by
      intro mm P' K' T' H3 k1 k2 k3 k4 k5 k6 S3
      refine F80.L8_step ?_
      unfold F80.L8n
      rw [wr64 (by omega) (by omega)]
      exact ihk (i + 1) mm P' K' T' H3 (by omega) (by rw [hft]; exact k1) k2 k3 k4 k5 k6 S3
    (repeat (first | (refine Step.go ?_; intros) | refine iteB_t (by decide) ?_ | refine iteB_f (by decide) ?_ | (refine Duo.mk (by first | omega | exact rfl | decide) ?_; intros) | (refine Duo.mk (Clo.mk (by kernel_rfl)) ?_; intros)))
    by_cases hk4 : y.k = 4
    · obtain ⟨k2, k3, cp, cn, cc, s1, n1, c1, f1, m1, d1, hb1, hT1, hE1⟩ : t1 = 173 ∧ H[r1]? = some (.cells ⟨[pA p1]⟩ 175) ∧ TxnH so y p1 H := by
        rcases hcase with ⟨k1, _⟩ | ⟨k1, _⟩ | ⟨k1, _⟩ | ⟨_, k2, k3, k4⟩
        · omega
        · omega
        · omega
        · exact ⟨k2, k3, k4⟩
      subst k2
      rw [if_pos hk4] at h4
      have hm4 := tot_mem (T := T) hym hk4
      obtain ⟨gT, gE⟩ := hgy.2.2.2 hk4
      refine assertOk_same (by kernel_rfl) ?_
      have A3 := atOld k3
      have A4 := atOld hb1
      (repeat (first | (refine Step.go ?_; intros) | refine iteB_t (by decide) ?_ | refine iteB_f (by decide) ?_ | (refine Duo.mk (by first | omega | exact rfl | decide) ?_; intros) | (refine Duo.mk (Clo.mk (by kernel_rfl)) ?_; intros)))
      have E1 : ExtH H H1 := Sat.grown
      refine call_of (ih y.T s1 n1 c1 H1 (hso _ _ _ _ _ E1 hT1) (by omega) gT) ?_
      intro e H2 he
      cases ha1 : sp y.T with
      | none =>
        rw [ha1] at he
        obtain ⟨tp', rfl, E2⟩ := he
        have hno := bad (by unfold stepT; rw [if_pos hk4]; dsimp only; rw [ha1])
        have S2 := S.ext E2
        clear S
        (repeat (first | (refine Step.go ?_; intros) | refine iteB_t (by decide) ?_ | refine iteB_f (by decide) ?_ | (refine Duo.mk (by first | omega | exact rfl | decide) ?_; intros) | (refine Duo.mk (Clo.mk (by kernel_rfl)) ?_; intros)))
        rw [hno]
        exact ⟨tp, rfl, Sat.grown⟩
      | some a1 =>
        rw [ha1] at he
        obtain ⟨mra, tpa, sra, ma, Ta, rfl, hma, hTa, hPa, hKa, hla, Sx⟩ := he
        have S2 := Sat.onto (m := [mp Value.string unitV mra ma, tr g0 1 sra sra Ta, pt tpa (treO (Ta.ref sra) (a1.2.length : Nat) sra), pt sra senO]) Sx S
        simp only [List.cons_append, List.nil_append] at S2
        clear S Sx
        (repeat (first | (refine Step.go ?_; intros) | refine iteB_t (by decide) ?_ | refine iteB_f (by decide) ?_ | (refine Duo.mk (by first | omega | exact rfl | decide) ?_; intros) | (refine Duo.mk (Clo.mk (by kernel_rfl)) ?_; intros)))
        refine ifNil_nil ?_
        refine iteB_f rfl ?_
        (repeat (first | (refine Step.go ?_; intros) | refine iteB_t (by decide) ?_ | refine iteB_f (by decide) ?_ | (refine Duo.mk (by first | omega | exact rfl | decide) ?_; intros) | (refine Duo.mk (Clo.mk (by kernel_rfl)) ?_; intros)))
        have E2 : ExtH H H2 := Sat.grown
        refine call_of (ih y.E f1 m1 d1 H2 (hso _ _ _ _ _ E2 hE1) (by omega) gE) ?_
        intro e H3 he
        cases hb2 : sp y.E with
        | none =>
          rw [hb2] at he
          obtain ⟨tp', rfl, E3⟩ := he
          have hno := bad (by unfold stepT; rw [if_pos hk4]; dsimp only; rw [ha1, hb2])
          have S3 := S2.ext E3
          clear S2
          (repeat (first | (refine Step.go ?_; intros) | refine iteB_t (by decide) ?_ | refine iteB_f (by decide) ?_ | (refine Duo.mk (by first | omega | exact rfl | decide) ?_; intros) | (refine Duo.mk (Clo.mk (by kernel_rfl)) ?_; intros)))
          rw [hno]
          exact ⟨tp, rfl, Sat.grown⟩
        | some b1 =>
          rw [hb2] at he
          obtain ⟨mrb, tpb, srb, mb, Tb, rfl, hmb, hTb, hPb, hKb, hlb, Sx⟩ := he
          have S3 := Sat.onto (m := [mp Value.string unitV mrb mb, tr g0 1 srb srb Tb, pt tpb (treO (Tb.ref srb) (b1.2.length : Nat) srb), pt srb senO]) Sx S2
          simp only [List.cons_append, List.nil_append] at S3
          clear S2 Sx
          (repeat (first | (refine Step.go ?_; intros) | refine iteB_t (by decide) ?_ | refine iteB_f (by decide) ?_ | (refine Duo.mk (by first | omega | exact rfl | decide) ?_; intros) | (refine Duo.mk (Clo.mk (by kernel_rfl)) ?_; intros)))
          refine ifNil_nil ?_
          refine iteB_f rfl ?_
          have hadd : stepT sp (some (P, K)) y = addT a1 b1 (P, K) := by unfold stepT; rw [if_pos hk4]; dsimp only; rw [ha1, hb2]
          have hbad : (∃ x ∈ a1.1 ++ b1.1, spBad x (P, K) = true) → spL sp ys = none := fun h => bad (by rw [hadd]; unfold addT; exact if_pos (spB (k := ⟨#[]⟩) (st := (P, K)) h))
          -- the first branch's keys
          obtain ⟨esa, clka, Fa, S4⟩ := Sat.mpOpen (S3.bring (c := mp Value.string unitV mra ma) (by (repeat (first | exact Sel.here | apply Sel.there))))
          clear S3
          refine rangeNew (kt := 9) (et := 198) (by kernel_rfl) S4 fun ira H5 S5 => ?_
          clear S4
          (repeat (first | (refine Step.go ?_; intros) | refine iteB_t (by decide) ?_ | refine iteB_f (by decide) ?_ | (refine Duo.mk (by first | omega | exact rfl | decide) ?_; intros) | (refine Duo.mk (Clo.mk (by kernel_rfl)) ?_; intros)))
          refine loop5 (sr := sr) (K := K) (P := P) (T := Tt) (es := esa) (clk := clka) (ma := ma) (H := H) (M := [mp Value.string unitV mrb mb, tr g0 1 sra sra Ta, pt tpa (treO (Ta.ref sra) (a1.2.length : Nat) sra), pt sra senO, tr g0 1 srb srb Tb, pt tpb (treO (Tb.ref srb) (b1.2.length : Nat) srb), pt srb senO]) (nn := (K.length : Nat)) hT Fa hma.nd (fun x hx => hPa x ((hma.iff_ x).1 hx)) ?_ ?_ (unseen esa #[]).length ira #[] [] mm H5 rfl ?_ (hm.congr fun x => by simp) (fun x hx => by cases hx) ?_
          · rintro H6 E6 ⟨x, hx, hx2⟩
            rw [hbad ⟨x, List.mem_append_left _ ((hma.iff_ x).1 hx), hx2⟩]
            exact ⟨tp, rfl, E6⟩
          · intro mm2 H6 hm2 hga S6
            have S7 := S6.to (Ent.mpClose Fa)
            clear S6
            obtain ⟨esb, clkb, Fb, S8⟩ := Sat.mpOpen (S7.bring (c := mp Value.string unitV mrb mb) (by (repeat (first | exact Sel.here | apply Sel.there))))
            clear S7
            refine rangeNew (kt := 9) (et := 198) (by kernel_rfl) S8 fun irb H9 S9 => ?_
            clear S8
            (repeat (first | (refine Step.go ?_; intros) | refine iteB_t (by decide) ?_ | refine iteB_f (by decide) ?_ | (refine Duo.mk (by first | omega | exact rfl | decide) ?_; intros) | (refine Duo.mk (Clo.mk (by kernel_rfl)) ?_; intros)))
            refine loop6 (rb := mrb) (sr := sr) (sra := sra) (tpa := tpa) (srb := srb) (tpb := tpb) (Ta := Ta) (Tb := Tb) (Ka := a1.2) (Kb := b1.2) (K := K) (P := P) (T := Tt) (es := esb) (clk := clkb) (ma := ma) (mb := mb) (H := H) (nn := (K.length : Nat)) hT hTa hTb hKa hKb (by omega) (by omega) (by omega) Fb hmb.nd (fun x hx => hPb x ((hmb.iff_ x).1 hx)) hga ?_ ?_ (unseen esb #[]).length irb #[] [] mm2 H9 rfl ?_ (hm2.congr fun x => by simp) (fun x hx => by cases hx) ?_
            · rintro H10 E10 ⟨x, hx, hx2⟩
              rw [hbad ⟨x, List.mem_append_right _ ((hmb.iff_ x).1 hx), hx2⟩]
              exact ⟨tp, rfl, E10⟩
            · intro mm3 T3 H10 hm3 hgb hT3 S10
              have hKK : putsK 1 (putsK 1 K a1.2) b1.2 = putsK 1 K (a1.2 ++ b1.2) := by unfold putsK; rw [List.foldl_append]
              rw [hKK] at hT3
              have hlen : (putsK 1 K (a1.2 ++ b1.2)).length = K.length + a1.2.length + b1.2.length := by rw [putsK_len, List.length_append]; omega
              refine l8 mm3 (((a1.1 ++ b1.1).foldl (fun l k => putX k l) []).foldl (fun l k => putX k l) P) (putsK 1 K (a1.2 ++ b1.2)) T3 H10 ?_ (hm3.congr fun x => ?_) (fun x hx => ?_) hT3 (fun z hz => ?_) (by rw [hlen]; omega) ?_
              · rw [hadd]
                unfold addT
                refine if_neg ?_
                intro hany
                obtain ⟨x, hx, hx2⟩ := List.any_eq_true.1 hany
                rcases List.mem_append.1 hx with hx | hx
                · have := hga x ((hma.iff_ x).2 hx)
                  rw [show spBad x (P, K) = true from hx2] at this; cases this
                · have := hgb x ((hmb.iff_ x).2 hx)
                  rw [show spBad x (P, K) = true from hx2] at this; cases this
              · rw [foldX_mem, foldX_mem, List.mem_append, hma.iff_, hmb.iff_]
                constructor
                · rintro (h | h | h)
                  · exact .inr h
                  · exact .inl (.inl (.inl h))
                  · exact .inl (.inl (.inr h))
                · rintro (((h | h) | h) | h)
                  · exact .inr (.inl h)
                  · exact .inr (.inr h)
                  · cases h
                  · exact .inl h
              · rw [foldX_mem, foldX_mem, List.mem_append] at hx
                rcases hx with ((h | h) | h) | h
                · exact hPa x h
                · exact hPb x h
                · cases h
                · exact hP x h
              · rcases putsK_mem hz with h | h
                · rcases List.mem_append.1 h with h | h
                  · exact hKa z h
                  · exact hKb z h
                · exact hK z h
              · have e : ((K.length : Nat) : Int) + (a1.2.length : Int) + (b1.2.length : Int) = (((putsK 1 K (a1.2 ++ b1.2)).length : Nat) : Int) := by rw [hlen]; omega
                rw [← e]
                exact S10
            · rw [unseen_nil, keys_of Fb, List.nil_append]
            · refine S9.to ?_
              iterate 13 (apply Ent.pick; (focus (repeat (first | exact Sel.here | apply Sel.there))))
              exact Fits.out
          · rw [unseen_nil, keys_of Fa, List.nil_append]
          · refine S5.to ?_
            iterate 13 (apply Ent.pick; (focus (repeat (first | exact Sel.here | apply Sel.there))))
            exact Fits.out
    · rw [if_neg hk4] at h4
      have hne : t1 ≠ 173 := by
        rcases hcase with ⟨_, k2⟩ | ⟨_, k2, _⟩ | ⟨_, k2, _⟩ | ⟨k1, _⟩
        · rw [k2]; decide
        · rw [k2]; decide
        · rw [k2]; decide
        · exact absurd k1 hk4
      refine assertOk_ne (z := .pointer none) hne (by kernel_rfl) (by kernel_rfl) ?_
      (repeat (first | (refine Step.go ?_; intros) | refine iteB_t (by decide) ?_ | refine iteB_f (by decide) ?_ | (refine Duo.mk (by first | omega | exact rfl | decide) ?_; intros) | (refine Duo.mk (Clo.mk (by kernel_rfl)) ?_; intros)))
      exact l8 mm P K Tt H1 (by unfold stepT; rw [if_neg hk4]) hm hP hT hK (by omega) S
/-- The first: deletes. -/
theorem ivD (hso : StaysO so) (ih : IvOk so sp T G) (hrel : All2 (OpB so H) ys bs) (hrow : RowsAt ptC 1 H q bs) (hbl : bs.length = n) (hn : n ≤ 140737488351232) (hg : goodL G ys) (ht : totL T ys ≤ 200) :
    ∀ (k i : Nat) (Tt : Tr) (H1 : Heap), i + k = n → TrW Tt (putsK 1 [] (delsK (ys.take i))) → (∀ z ∈ delsK (ys.take i), GoodK z) →
      Sat H1 [tr g0 1 sr sr Tt, pt tp (treO (Tt.ref sr) ((delsK (ys.take i)).length : Nat) sr), pt sr senO, old H] →
      F80.L0 q n c (trIV tp) q n c (n : Nat) (i : Nat) H1 (IvEnd (spL sp ys) (totL T ys) H) := by
  have hyl : ys.length = n := by rw [← hbl]; exact hrel.len
  have R : RowsC H q ptC 1 bs := ⟨hrow⟩
  have b3 := sum4_cnt (T := T) (j := 3) (by decide) ys
  have hml : ∀ i, (delsK (ys.take i)).length ≤ 200 := by
    intro i
    rw [dels_len]
    have := cnt_le (j := 3) ys i
    omega
  intro k
  induction k with
  | zero =>
    intro i Tt H1 hk hT hK S
    obtain rfl : i = n := by omega
    rw [List.take_of_length_le (by omega)] at hT hK S
    refine F80.L0_step ?_
    unfold F80.L0n
    refine iteB_f (by simp) ?_
    have hlen : (putsK 1 [] (delsK ys)).length = (delsK ys).length := by rw [putsK_len]; simp
    (repeat (first | (refine Step.go ?_; intros) | refine iteB_t (by decide) ?_ | refine iteB_f (by decide) ?_ | (refine Duo.mk (by first | omega | exact rfl | decide) ?_; intros) | (refine Duo.mk (Clo.mk (by kernel_rfl)) ?_; intros)))
    rename_i rm H2 S2
    have S3 : Sat H2 (mp Value.string unitV rm [] :: _) := Sat.mpNew S2 Value.string unitV
    refine ivT (sr := sr) hso ih hrel hrow hbl hn hg ht i 0 [] [] (putsK 1 [] (delsK ys)) Tt H2 (Nat.zero_add _) rfl ⟨by simp, fun k => by simp⟩ (fun k h => by cases h) hT (fun z hz => ?_) (by rw [hlen, dels_len]; omega) ?_
    · rcases putsK_mem hz with h | h
      · exact hK z h
      · cases h
    · rw [hlen]
      exact S3
  | succ k ihk =>
    intro i Tt H1 hk hT hK S
    obtain ⟨y, hy⟩ : ∃ y, ys[i]? = some y := get_of (by omega)
    have hym := List.mem_of_getElem? hy
    obtain ⟨b, hb, hop⟩ := hrel.get hy
    have hgy := hg y hym
    have hI := HasI.nat hb
    obtain ⟨t1, r1, p1, ho1, hcase⟩ := hop
    have A1 := atOld ho1
    have hdt := dels_take hy
    have hmi := hml i
    refine F80.L0_step ?_
    unfold F80.L0n
    refine iteB_t (by simp; omega) ?_
    refine RowsC.idx R hbl ⟨by omega, by omega, fun a ha => ?_⟩
    have R' : RowsC H (some a) ptC 1 bs := ⟨by rw [← ha]; exact hrow⟩
    have l10 : ∀ (T' : Tr) (H3 : Heap), TrW T' (putsK 1 [] (delsK (ys.take (i + 1)))) → (∀ z ∈ delsK (ys.take (i + 1)), GoodK z) → Sat H3 [tr g0 1 sr sr T', pt tp (treO (T'.ref sr) ((delsK (ys.take (i + 1))).length : Nat) sr), pt sr senO, old H] → F80.L10 q n c (trIV tp) q n c (n : Nat) (i : Nat) H3 (IvEnd (spL sp ys) (totL T ys) H) := by
      intro T' H3 k1 k2 S3
      refine F80.L10_step ?_
      unfold F80.L10n
      rw [wr64 (by omega) (by omega)]
      exact ihk (i + 1) T' H3 (by omega) k1 k2 S3
    (repeat (first | (refine Step.go ?_; intros) | refine iteB_t (by decide) ?_ | refine iteB_f (by decide) ?_ | (refine Duo.mk (by first | omega | exact rfl | decide) ?_; intros) | (refine Duo.mk (Clo.mk (by kernel_rfl)) ?_; intros)))
    by_cases hk3 : y.k = 3
    · obtain ⟨k2, k3, kb, kc, qe, ce, hb1, hc1, hc2⟩ : t1 = 170 ∧ H[r1]? = some (.cells ⟨[pA p1]⟩ 172) ∧ ∃ k kc q c, H[p1]? = some (deO y k kc q c) ∧ cellsAt H (some ⟨k, 0, none⟩) (bytesOf y.key.data.toList) ∧ cellsAt H q (bytesOf y.en.data.toList) := by
        rcases hcase with ⟨k1, _⟩ | ⟨k1, _⟩ | ⟨_, k2, k3, k4⟩ | ⟨k1, _⟩
        · omega
        · omega
        · exact ⟨k2, k3, k4⟩
        · omega
      subst k2
      rw [if_pos hk3] at hdt
      obtain ⟨z1, z2⟩ := hgy.2.2.1 hk3
      have hgk := goodD (x := y) z1 z2
      refine assertOk_same (by kernel_rfl) ?_
      have A3 := atOld k3
      have A4 := atOld hb1
      -- the interval is put
      have l9 : ∀ (E : SE) (r : Nat) (H3 : Heap), ((y.key, 0), (E, 0)) = keyD y → Sat H3 [pt r (.cells ⟨[.iface 180 (.string y.key), .iface 180 (.string E)]⟩ 109), tr g0 1 sr sr Tt, pt tp (treO (Tt.ref sr) ((delsK (ys.take i)).length : Nat) sr), pt sr senO, old H] →
          F80.L9 q n c (trIV tp) r q n c (n : Nat) (i : Nat) H3 (IvEnd (spL sp ys) (totL T ys) H) := by
        intro E r H3 hE S3
        refine F80.L9_step ?_
        unfold F80.L9n
        (repeat (first | (refine Step.go ?_; intros) | refine iteB_t (by decide) ?_ | refine iteB_f (by decide) ?_ | (refine Duo.mk (by first | omega | exact rfl | decide) ?_; intros) | (refine Duo.mk (Clo.mk (by kernel_rfl)) ?_; intros)))
        refine callI_i (f := 142) (by kernel_rfl) (by kernel_rfl) (by kernel_rfl) ?_
        have S4 : Sat H3 (tr g0 1 sr sr Tt :: pt tp (treO (Tt.ref sr) ((delsK (ys.take i)).length : Nat) sr) :: pt sr senO :: [pt r (.cells ⟨[.iface 180 (.string y.key), .iface 180 (.string E)]⟩ 109), old H]) := S3.to Fits.out
        have S4 := tr_has S4
        have hlt : ltE 1 (y.key, 0) (E, 0) = true := by
          have := hgk.2.2
          rw [← hE] at this
          exact this
        refine callD_i (insert_ok (i := .mk 180 (.string y.key)) (j := .mk 180 (.string E)) (v := .mk 198 (.agg ⟨[]⟩)) (affG _) (affG _) hT.wt.rb (by omega) S4) ?_
        rintro _ H5 ⟨rfl, nb, S5⟩
        (repeat (first | (refine Step.go ?_; intros) | refine iteB_t (by decide) ?_ | refine iteB_f (by decide) ?_ | (refine Duo.mk (by first | omega | exact rfl | decide) ?_; intros) | (refine Duo.mk (Clo.mk (by kernel_rfl)) ?_; intros)))
        have hins := hT.ins (z := ⟨nb, .mk 180 (.string y.key), .mk 180 (.string E), .mk 198 (.agg ⟨[]⟩), (y.key, 0), (E, 0)⟩) hlt
        refine l10 (Go.Proofs.Ytobolifgehagfaa.ins 1 ⟨nb, .mk 180 (.string y.key), .mk 180 (.string E), .mk 198 (.agg ⟨[]⟩), (y.key, 0), (E, 0)⟩ Tt) H5 ?_ ?_ (S5.to ?_)
        · rw [hdt, putsK_snoc, ← hE]
          exact hins
        · rw [hdt]
          intro z hz
          rcases List.mem_append.1 hz with hz | hz
          · exact hK z hz
          · simp at hz; subst hz; exact hgk
        · have e : ((delsK (ys.take (i + 1))).length : Int) = ((delsK (ys.take i)).length : Int) + 1 := by rw [hdt]; simp
          rw [e]
          exact Fits.out
      (repeat (first | (refine Step.go ?_; intros) | refine iteB_t (by decide) ?_ | refine iteB_f (by decide) ?_ | (refine Duo.mk (by first | omega | exact rfl | decide) ?_; intros) | (refine Duo.mk (Clo.mk (by kernel_rfl)) ?_; intros)))
      refine iteB_f rfl ?_
      (repeat (first | (refine Step.go ?_; intros) | refine iteB_t (by decide) ?_ | refine iteB_f (by decide) ?_ | (refine Duo.mk (by first | omega | exact rfl | decide) ?_; intros) | (refine Duo.mk (Clo.mk (by kernel_rfl)) ?_; intros)))
      rename_i r H2 S2
      refine iteB_i (fun he => ?_) (fun he => ?_)
      · have he : y.en.size ≠ 0 := by simpa using he
        (repeat (first | (refine Step.go ?_; intros) | refine iteB_t (by decide) ?_ | refine iteB_f (by decide) ?_ | (refine Duo.mk (by first | omega | exact rfl | decide) ?_; intros) | (refine Duo.mk (Clo.mk (by kernel_rfl)) ?_; intros)))
        have E2 : ExtH H H2 := Sat.grown
        refine bsD_of (s := y.key) rfl (cellsAt_ext hc1 E2) ?_
        (repeat (first | (refine Step.go ?_; intros) | refine iteB_t (by decide) ?_ | refine iteB_f (by decide) ?_ | (refine Duo.mk (by first | omega | exact rfl | decide) ?_; intros) | (refine Duo.mk (Clo.mk (by kernel_rfl)) ?_; intros)))
        refine bsD_of (s := y.en) rfl (cellsAt_ext hc2 E2) ?_
        refine gives_i S2 (mkAff _ _) fun H3 E3 S3 => ?_
        clear S2 S
        (repeat (first | (refine Step.go ?_; intros) | refine iteB_t (by decide) ?_ | refine iteB_f (by decide) ?_ | (refine Duo.mk (by first | omega | exact rfl | decide) ?_; intros) | (refine Duo.mk (Clo.mk (by kernel_rfl)) ?_; intros)))
        rename_i H4 S4
        refine l9 y.en r H4 ?_ S4
        have e : (delSp y).E = (y.en, 0) := by
          unfold SP.E SP.end_; dsimp only; rw [if_neg (by simpa using he)]
        show _ = ((delSp y).B, (delSp y).E)
        rw [e]
        rfl
      · have he : y.en.size = 0 := by simpa using he
        (repeat (first | (refine Step.go ?_; intros) | refine iteB_t (by decide) ?_ | refine iteB_f (by decide) ?_ | (refine Duo.mk (by first | omega | exact rfl | decide) ?_; intros) | (refine Duo.mk (Clo.mk (by kernel_rfl)) ?_; intros)))
        have E2 : ExtH H H2 := Sat.grown
        refine bsD_of (s := y.key) rfl (cellsAt_ext hc1 E2) ?_
        refine gives_i S2 (mkAffP hgy.1.1) fun H3 E3 S3 => ?_
        clear S2 S
        (repeat (first | (refine Step.go ?_; intros) | refine iteB_t (by decide) ?_ | refine iteB_f (by decide) ?_ | (refine Duo.mk (by first | omega | exact rfl | decide) ?_; intros) | (refine Duo.mk (Clo.mk (by kernel_rfl)) ?_; intros)))
        rename_i H4 S4
        refine l9 (y.key ++ (⟨#[0]⟩ : ByteArray)) r H4 ?_ S4
        have e : (delSp y).E = (y.key ++ ⟨#[0]⟩, 0) := by
          unfold SP.E SP.end_; dsimp only; rw [if_pos (decide_eq_true he)]
        show _ = ((delSp y).B, (delSp y).E)
        rw [e]
        rfl
    · rw [if_neg hk3, List.append_nil] at hdt
      have hne : t1 ≠ 170 := by
        rcases hcase with ⟨_, k2⟩ | ⟨_, k2, _⟩ | ⟨k1, _⟩ | ⟨_, k2, _⟩
        · rw [k2]; decide
        · rw [k2]; decide
        · exact absurd k1 hk3
        · rw [k2]; decide
      refine assertOk_ne (z := .pointer none) hne (by kernel_rfl) (by kernel_rfl) ?_
      (repeat (first | (refine Step.go ?_; intros) | refine iteB_t (by decide) ?_ | refine iteB_f (by decide) ?_ | (refine Duo.mk (by first | omega | exact rfl | decide) ?_; intros) | (refine Duo.mk (Clo.mk (by kernel_rfl)) ?_; intros)))
      exact l10 Tt H1 (by rw [hdt]; exact hT) (by rw [hdt]; exact hK) (by rw [hdt]; exact S)
theorem iv_step (hso : StaysO so) (ih : IvOk so sp T G) : IvOk (OpsL so) (spL sp) (totL T) (goodL G) := by
  rintro xs q n c H ⟨bs, hbl, hn, hrow, hrel⟩ ht hg
  rw [← spL_known]
  have htk := tot_known (T := T) xs
  have hg' : goodL G (known xs) := fun x hx => hg x (List.mem_filter.1 hx).1
  have S := Sat.start H
  refine F80.calls ?_
  unfold F80.go
  refine callD_i (newTree_ok (g := g0) (o := 1) S) ?_
  rintro _ H1 ⟨tp, sr, rfl, S1⟩
  (repeat (first | (refine Step.go ?_; intros) | refine iteB_t (by decide) ?_ | refine iteB_f (by decide) ?_ | (refine Duo.mk (by first | omega | exact rfl | decide) ?_; intros) | (refine Duo.mk (Clo.mk (by kernel_rfl)) ?_; intros)))
  have key := ivD (sr := sr) (tp := tp) (c := c) hso ih hrel hrow hbl hn hg' (by omega) n 0 .nil H1 (Nat.zero_add _) (by simpa [delsK, putsK] using TrW.nil) (fun z hz => by simp [delsK] at hz) (by simpa [delsK, Tr.ref] using S1)
  refine GoL.mono key fun e H2 h => ?_
  cases hsp : spL sp (known xs) with
  | none => rw [hsp] at h; exact h
  | some st =>
    rw [hsp] at h
    obtain ⟨mr, tp2, sr2, m, T2, k1, k2, k3, k4, k5, k6, k7⟩ := h
    exact ⟨mr, tp2, sr2, m, T2, k1, k2, k3, k4, k5, Nat.le_trans k6 htk, k7⟩
end
theorem iv_ok : ∀ f : Nat, IvOk (OpsH f) (spO f) (tot f) (good f)
  | 0 => by
    intro xs q n c H hR _ _
    have hn : n = 0 := hR
    subst hn
    have S := Sat.start H
    refine F80.calls ?_
    unfold F80.go
    refine callD_i (newTree_ok (g := g0) (o := 1) S) ?_
    rintro _ H1 ⟨tp, sr, rfl, S1⟩
    (repeat (first | (refine Step.go ?_; intros) | refine iteB_t (by decide) ?_ | refine iteB_f (by decide) ?_ | (refine Duo.mk (by first | omega | exact rfl | decide) ?_; intros) | (refine Duo.mk (Clo.mk (by kernel_rfl)) ?_; intros)))
    refine F80.L0_step ?_
    unfold F80.L0n
    refine iteB_f (by decide) ?_
    (repeat (first | (refine Step.go ?_; intros) | refine iteB_t (by decide) ?_ | refine iteB_f (by decide) ?_ | (refine Duo.mk (by first | omega | exact rfl | decide) ?_; intros) | (refine Duo.mk (Clo.mk (by kernel_rfl)) ?_; intros)))
    rename_i rm H2 S2
    refine F80.L1_step ?_
    unfold F80.L1n
    refine iteB_f (by decide) ?_
    refine F80.L2_step ?_
    unfold F80.L2n
    refine iteB_f (by decide) ?_
    have S3 : Sat H2 (mp Value.string unitV rm [] :: _) := Sat.mpNew S2 Value.string unitV
    exact ⟨rm, tp, sr, [], .nil, rfl, ⟨by simp, fun k => by simp⟩, TrW.nil, (fun k h => by cases h), (fun k h => by cases h), Nat.zero_le _, S3⟩
  | f + 1 => iv_step (OpsH.ext f) (iv_ok f)
end Go.Proofs.Ytobolifgehagfaa

set_option linter.unusedVariables false
set_option linter.unusedSimpArgs false
set_option linter.unnecessarySimpa false
namespace Go.Proofs.Ytobolifgehagfaa
open Go Go.Den Go.Proofs
/-! The program's answer. -/
theorem foldT_inv {C : Type} {sp : List C → Option Tch} {T : List C → Nat} (ih : ∀ l a, sp l = some a → a.1.length ≤ T l) : ∀ (xs : List (RqF C)) (st0 st : Tch), xs.foldl (stepT sp) (some st0) = some st → st.1.length ≤ st0.1.length + sum4 T xs ∧ (Ris st0.1 → Ris st.1)
  | [], st0, st, h => by cases h; exact ⟨Nat.le_add_right .., id⟩
  | x :: xs, st0, st, h => by
    rw [List.foldl_cons] at h
    have e4 : sum4 T (x :: xs) = (if x.k = 4 then T x.T + T x.E else 0) + sum4 T xs := by simp [sum4]
    cases hs : stepT sp (some st0) x with
    | none => rw [hs, foldT_none] at h; cases h
    | some s1 =>
      rw [hs] at h
      obtain ⟨h1, h2⟩ := foldT_inv ih xs s1 st h
      unfold stepT at hs
      by_cases hk : x.k = 4
      · rw [if_pos hk] at hs e4
        dsimp only at hs
        cases ha : sp x.T with
        | none => rw [ha] at hs; cases hs
        | some a =>
          rw [ha] at hs
          dsimp only at hs
          cases hb : sp x.E with
          | none => rw [hb] at hs; cases hs
          | some b =>
            rw [hb] at hs
            dsimp only at hs
            unfold addT at hs
            split at hs
            · cases hs
            · cases hs
              have l1 := putsX_len (a.1 ++ b.1) []
              have l2 := putsX_len ((a.1 ++ b.1).foldl (fun l k => putX k l) []) st0.1
              have l3 := ih _ _ ha
              have l4 := ih _ _ hb
              simp only [List.length_append, List.length_nil] at l1
              dsimp only at h1 h2
              exact ⟨by omega, fun h => h2 (foldX_ris h)⟩
      · rw [if_neg hk] at hs e4
        cases hs
        exact ⟨by omega, h2⟩
theorem foldP_inv {C : Type} : ∀ (xs : List (RqF C)) (st0 st : Tch), xs.foldl stepP (some st0) = some st → st.1.length ≤ st0.1.length + cntk 2 xs ∧ (Ris st0.1 → Ris st.1)
  | [], st0, st, h => by cases h; exact ⟨Nat.le_add_right .., id⟩
  | x :: xs, st0, st, h => by
    rw [List.foldl_cons] at h
    cases hs : stepP (some st0) x with
    | none => rw [hs, foldP_none] at h; cases h
    | some s1 =>
      rw [hs] at h
      obtain ⟨h1, h2⟩ := foldP_inv xs s1 st h
      unfold stepP at hs
      by_cases hk : x.k = 2
      · have e4 : cntk 2 (x :: xs) = 1 + cntk 2 xs := by unfold cntk; rw [List.filter_cons, if_pos (decide_eq_true hk), List.length_cons]; omega
        rw [if_pos hk] at hs
        dsimp only at hs
        split at hs
        · cases hs
        · cases hs
          have l1 := putX_len (s := x.key) st0.1
          dsimp only at h1 h2
          exact ⟨by omega, fun h => h2 (putX_ris h)⟩
      · have e4 : cntk 2 (x :: xs) = cntk 2 xs := by unfold cntk; rw [List.filter_cons, if_neg (by simpa using hk)]
        rw [if_neg hk] at hs
        cases hs
        exact ⟨by omega, h2⟩
theorem spL_inv {C : Type} {sp : List C → Option Tch} {T : List C → Nat} (ih : ∀ l a, sp l = some a → a.1.length ≤ T l) {xs : List (RqF C)} {st : Tch} (h : spL sp xs = some st) : st.1.length ≤ totL T xs ∧ Ris st.1 := by
  unfold spL at h
  cases hs : xs.foldl (stepT sp) (some ([], putsK 1 [] (delsK xs))) with
  | none => rw [hs, foldP_none] at h; cases h
  | some s1 =>
    rw [hs] at h
    obtain ⟨a1, a2⟩ := foldT_inv ih _ _ _ hs
    obtain ⟨b1, b2⟩ := foldP_inv _ _ _ h
    have := sum4_cnt (T := T) (j := 2) (by decide) xs
    simp only [List.length_nil] at a1
    exact ⟨by omega, b2 (a2 List.Pairwise.nil)⟩
theorem spO_inv : ∀ (f : Nat) {xs : List (RQ f)} {st : Tch}, spO f xs = some st → st.1.length ≤ tot f xs ∧ Ris st.1
  | 0, _, _, h => by cases h; exact ⟨Nat.zero_le _, List.Pairwise.nil⟩
  | f + 1, _, _, h => spL_inv (fun l a ha => (spO_inv f ha).1) h
/-- Two rising lists of the same texts are the same. -/
theorem ris_ext : ∀ {a b : List SE}, Ris a → Ris b → (∀ x, x ∈ a ↔ x ∈ b) → a = b
  | [], [], _, _, _ => rfl
  | [], y :: b, _, _, h => by have := (h y).2 (List.mem_cons_self ..); cases this
  | x :: a, [], _, _, h => by have := (h x).1 (List.mem_cons_self ..); cases this
  | x :: a, y :: b, ha, hb, h => by
    unfold Ris at ha hb
    rw [List.pairwise_cons] at ha hb
    have exy : x = y := by
      rcases List.mem_cons.1 ((h x).1 (List.mem_cons_self ..)) with e | h1
      · exact e
      · rcases List.mem_cons.1 ((h y).2 (List.mem_cons_self ..)) with e | h2
        · exact e.symm
        · have h3 := seLin.tr _ _ _ (hb.1 x h1) (ha.1 y h2)
          rw [seIrr] at h3
          cases h3
    subst exy
    refine congrArg (x :: ·) (ris_ext ha.2 hb.2 fun z => ?_)
    have hz := h z
    rw [List.mem_cons, List.mem_cons] at hz
    constructor
    · intro h1
      rcases hz.1 (.inr h1) with e | h2
      · subst e
        have := ha.1 _ h1
        rw [seIrr] at this; cases this
      · exact h2
    · intro h1
      rcases hz.2 (.inr h1) with e | h2
      · subst e
        have := hb.1 _ h1
        rw [seIrr] at this; cases this
      · exact h2
theorem ris_nodup {a : List SE} (h : Ris a) : a.Nodup := by
  refine List.Pairwise.imp ?_ h
  intro x y hxy e
  subst e
  rw [seIrr] at hxy; cases hxy
def outK (z : EP) : SP := ⟨z.1.1, z.2.1, false, 0, 0⟩
section
variable {H : Heap} {l : List HP} {sr tp : Nat} {T : Tr} {n : Int}
def SpnJ (sr tp : Nat) (n : Int) (T : Tr) (r1 : Nat) (s : List It) (l : List HP) (H : Heap) : Prop :=
  ∃ p c, Sat H (pt r1 (.cells ⟨[.slice p s.length c]⟩ 31) :: sl SP.cells 35 5 p s.length c (s.map fun it => outK (keyI it)) :: tr g0 1 sr sr T :: pt tp (treO (T.ref sr) n sr) :: pt sr senO :: has g0 :: l)
theorem spn_vis {r1 : Nat} : VisJ (SpnJ sr tp n T r1) addF (.mk (.func 51) ⟨[]⟩ ⟨[pA r1]⟩) T.inL List.length 1000000 := by
  refine ⟨fun s it => by simp [addF], ?_, ?_, ?_, ?_⟩
  · rintro s l m H H1 ⟨p, c, S⟩ S1
    refine ⟨p, c, (S1.onto S).to ?_⟩
    refine fun k x => SatP.perm ?_ x
    have := (List.perm_append_comm (l₁ := m) (l₂ := [pt r1 (.cells ⟨[.slice p s.length c]⟩ 31), sl SP.cells 35 5 p s.length c (s.map fun it => outK (keyI it)), tr g0 1 sr sr T, pt tp (treO (T.ref sr) n sr), pt sr senO, has g0])).append_right l
    simpa using this
  · rintro s l H ⟨p, c, S⟩
    exact S.to (Ent.drop (Ent.drop (Ent.drop (Ent.drop (Ent.drop (Ent.drop .refl))))))
  · rintro s m l H ⟨p, c, S⟩
    refine ⟨p, c, S.to ?_⟩
    refine Ent.cons (Ent.cons (Ent.cons (Ent.cons (Ent.cons (Ent.cons ?_)))))
    intro k x
    obtain ⟨h, _, _, y⟩ := star_in x
    exact y.mono PH.minus_sub
  · rintro s l it H Q K hit hw ⟨p, c, S⟩ k
    obtain ⟨hO, hne, m, x, y, p', c', hblk⟩ := TrH.mem (trH_of (S.bring (c := tr g0 1 sr sr T) (by (repeat (first | exact Sel.here | apply Sel.there))))) hit
    refine Step.go (Duo.mk (Clo.mk (by kernel_rfl)) ?_)
    refine F51.calls ?_
    unfold F51.go
    (repeat (first | (refine Step.go ?_; intros) | refine iteB_t (by decide) ?_ | refine iteB_f (by decide) ?_ | (refine Duo.mk (by first | omega | exact rfl | decide) ?_; intros) | (refine Duo.mk (Clo.mk (by kernel_rfl)) ?_; intros)))
    refine gives_i S (spanOut_ok (o := 1) (B := it.B) (E := it.E) (hO.1 H (g0_sub H)) (hO.2 H (g0_sub H))) fun H1 E1 S1 => ?_
    clear S
    have eo : outS 1 it.B it.E = outK (keyI it) := by unfold outS; rw [if_neg (by decide)]; rfl
    rw [eo]
    (repeat (first | (refine Step.go ?_; intros) | refine iteB_t (by decide) ?_ | refine iteB_f (by decide) ?_ | (refine Duo.mk (by first | omega | exact rfl | decide) ?_; intros) | (refine Duo.mk (Clo.mk (by kernel_rfl)) ?_; intros)))
    have e1 : (s.map fun it => outK (keyI it)).length = s.length := by simp
    rename_i r H2 S2
    have S3 : Sat H2 (pt r (.cells ⟨(outK (keyI it)).cells⟩ 35) :: pt r1 (.cells ⟨[.slice p s.length c]⟩ 31) :: sl SP.cells 35 5 p (s.map fun it => outK (keyI it)).length c (s.map fun it => outK (keyI it)) :: tr g0 1 sr sr T :: pt tp (treO (T.ref sr) n sr) :: pt sr senO :: has g0 :: l) := by rw [e1]; exact S2
    clear S2 S1
    have key := appSps (q := some ⟨r, 0, none⟩) (ys := [outK (keyI it)]) (K := fun q1 q1n q1c H3 => st1 H3 ⟨r1, 0, none⟩ (.slice q1 q1n q1c) fun H4 => K (.bool true) H4) S3 (by (repeat (first | exact Sel.here | apply Sel.there))) (rows_one (f := SP.cells) (z := 5) (S3.at_ (List.mem_cons_self ..))) (by rw [e1]; simp; omega) fun p2 c2 H4 S4 => ?_
    · rw [e1] at key
      exact key
    · (repeat (first | (refine Step.go ?_; intros) | refine iteB_t (by decide) ?_ | refine iteB_f (by decide) ?_ | (refine Duo.mk (by first | omega | exact rfl | decide) ?_; intros) | (refine Duo.mk (Clo.mk (by kernel_rfl)) ?_; intros)))
      rename_i H5 S5
      refine k H5 ⟨p2, c2, ?_⟩
      have e2 : (addF s it).1 = s ++ [it] := rfl
      rw [e2, List.map_append, List.map_cons, List.map_nil]
      have e3 : (s ++ [it]).length = ((s.map fun it => outK (keyI it)) ++ [outK (keyI it)]).length := by simp
      rw [e3]
      refine S5.to ?_
      iterate 6 (apply Ent.pick; (focus (repeat (first | exact Sel.here | apply Sel.there))))
      exact Ent.drop .refl
end
def OvEnd (r : Option Tch) (H : Heap) (e : Ending) (H1 : Heap) : Prop :=
  match r with
  | none => e = .returned (.tuple ⟨[.slice none 0 0, .slice none 0 0, .int .i64 5]⟩) ∧ ExtH H H1
  | some st => ∃ (q q1 : Option Addr) (d d1 : Nat), e = .returned (.tuple ⟨[.slice q st.1.length d, .slice q1 (st.2.map outK).length d1, .int .i64 0]⟩) ∧ Sat H1 ([sl seC 9 1 q st.1.length d st.1, sl SP.cells 35 5 q1 (st.2.map outK).length d1 (st.2.map outK)] ++ [old H])
theorem overlaps_ok {f : Nat} {xs : List (RQ f)} {p : Option Addr} {n c : Nat} {H : Heap} (hR : RowsQ f H p n xs) (ht : tot f xs ≤ 200) (hg : good f xs) : CallsH Try.prog 26 ⟨[.slice p n c]⟩ H (OvEnd (spO f xs) H) := by
  have S := Sat.start H
  refine F26.calls ?_
  unfold F26.go
  refine grow_i S (ops_ok f xs p n c H hR ht) ?_
  rintro ⟨⟨q, d⟩, m⟩ H1 E1 S1
  dsimp only at S1 ⊢
  simp only [List.cons_append, List.nil_append] at S1
  clear S
  (repeat (first | (refine Step.go ?_; intros) | refine iteB_t (by decide) ?_ | refine iteB_f (by decide) ?_ | (refine Duo.mk (by first | omega | exact rfl | decide) ?_; intros) | (refine Duo.mk (Clo.mk (by kernel_rfl)) ?_; intros)))
  have zz : CallsH Try.prog 46 ⟨[.slice q m d]⟩ H1 (IvEnd (spO f xs) (tot f xs) H1) := by
    refine F46.calls ?_
    unfold F46.go
    refine call_of (iv_ok f xs q m d H1 (inH_out (φ := fun H' => OpsH f H' xs q m) S1 (List.mem_cons_self ..)) ht hg) ?_
    intro e H2 he
    cases hs : spO f xs with
    | none =>
      rw [hs] at he
      obtain ⟨tp, rfl, E2⟩ := he
      (repeat (first | (refine Step.go ?_; intros) | refine iteB_t (by decide) ?_ | refine iteB_f (by decide) ?_ | (refine Duo.mk (by first | omega | exact rfl | decide) ?_; intros) | (refine Duo.mk (Clo.mk (by kernel_rfl)) ?_; intros)))
      exact ⟨tp, rfl, E2⟩
    | some st =>
      rw [hs] at he
      obtain ⟨mr, tp, sr, mm, T, rfl, k2, k3, k4, k5, k6, k7⟩ := he
      (repeat (first | (refine Step.go ?_; intros) | refine iteB_t (by decide) ?_ | refine iteB_f (by decide) ?_ | (refine Duo.mk (by first | omega | exact rfl | decide) ?_; intros) | (refine Duo.mk (Clo.mk (by kernel_rfl)) ?_; intros)))
      exact ⟨mr, tp, sr, mm, T, rfl, k2, k3, k4, k5, k6, k7⟩
  refine call_of zz ?_
  intro e H2 he
  cases hs : spO f xs with
  | none =>
    rw [hs] at he
    obtain ⟨tp, rfl, E2⟩ := he
    have S2 := S1.ext E2
    clear S1
    (repeat (first | (refine Step.go ?_; intros) | refine iteB_t (by decide) ?_ | refine iteB_f (by decide) ?_ | (refine Duo.mk (by first | omega | exact rfl | decide) ?_; intros) | (refine Duo.mk (Clo.mk (by kernel_rfl)) ?_; intros)))
    refine gives_i S2 kind5 fun H3 E3 S3 => ?_
    (repeat (first | (refine Step.go ?_; intros) | refine iteB_t (by decide) ?_ | refine iteB_f (by decide) ?_ | (refine Duo.mk (by first | omega | exact rfl | decide) ?_; intros) | (refine Duo.mk (Clo.mk (by kernel_rfl)) ?_; intros)))
    exact ⟨rfl, Sat.grown⟩
  | some st =>
    rw [hs] at he
    obtain ⟨mr, tp, sr, mm, T, rfl, hm, hT, k4, hK, k6, Sx⟩ := he
    have S2 := Sat.onto (m := [mp Value.string unitV mr mm, tr g0 1 sr sr T, pt tp (treO (T.ref sr) (st.2.length : Nat) sr), pt sr senO]) Sx S1
    simp only [List.cons_append, List.nil_append] at S2
    clear S1 Sx
    obtain ⟨hPl, hPr⟩ := spO_inv f hs
    have hTl := hT.len
    (repeat (first | (refine Step.go ?_; intros) | refine iteB_t (by decide) ?_ | refine iteB_f (by decide) ?_ | (refine Duo.mk (by first | omega | exact rfl | decide) ?_; intros) | (refine Duo.mk (Clo.mk (by kernel_rfl)) ?_; intros)))
    refine ifNil_nil ?_
    refine iteB_f rfl ?_
    obtain ⟨es, clk, F, S3⟩ := Sat.mpOpen (S2.bring (c := mp Value.string unitV mr mm) (by (repeat (first | exact Sel.here | apply Sel.there))))
    clear S2
    refine rangeNew (kt := 9) (et := 198) (by kernel_rfl) S3 fun ir H4 S4 => ?_
    clear S3
    (repeat (first | (refine Step.go ?_; intros) | refine iteB_t (by decide) ?_ | refine iteB_f (by decide) ?_ | (refine Duo.mk (by first | omega | exact rfl | decide) ?_; intros) | (refine Duo.mk (Clo.mk (by kernel_rfl)) ?_; intros)))
    have loop : ∀ (N : Nat) (seen : Array Nat) (ks : List SE) (q : Option Addr) (d : Nat) (H5 : Heap), (unseen es seen).length = N → (ks ++ (unseen es seen).map keyOf).Perm (mm.map (·.1)) → Sat H5 [pt ir (.mapIter (some mr) clk seen clk), pt mr (.map es clk), sl seC 9 1 q ks.length d ks, tr g0 1 sr sr T, pt tp (treO (T.ref sr) (st.2.length : Nat) sr), pt sr senO, old H] →
        F26.L0 (trIV tp) q ks.length d (some ⟨ir, 0, none⟩) H5 (OvEnd (some st) H) := by
      intro N
      have hkl : ∀ {ks : List SE} {seen : Array Nat}, (ks ++ (unseen es seen).map keyOf).Perm (mm.map (·.1)) → ks.length ≤ st.1.length := by
        intro ks seen hp
        have h1 : (mm.map (·.1)).Perm st.1 := (List.perm_ext_iff_of_nodup hm.nd (ris_nodup hPr)).2 hm.iff_
        have h2 := (hp.trans h1).length_eq
        rw [List.length_append] at h2
        omega
      induction N with
      | zero =>
        intro seen ks q d H5 hN hp S5
        have hu : unseen es seen = [] := List.eq_nil_of_length_eq_zero hN
        have hkl1 := hkl hp
        rw [hu, List.map_nil, List.append_nil] at hp
        refine F26.L0_step ?_
        unfold F26.L0n
        refine rangeNext F S5 (fun _ => ?_) (fun a e b h => by rw [hu] at h; simp at h)
        (repeat (first | (refine Step.go ?_; intros) | refine iteB_t (by decide) ?_ | refine iteB_f (by decide) ?_ | (refine Duo.mk (by first | omega | exact rfl | decide) ?_; intros) | (refine Duo.mk (Clo.mk (by kernel_rfl)) ?_; intros)))
        have hnd : ks.Nodup := hp.nodup_iff.2 hm.nd
        refine callD_i (sort_ok (by omega) (Dif.of_nodup hnd) (S5.bring (c := sl seC 9 1 q ks.length d ks) (by (repeat (first | exact Sel.here | apply Sel.there))))) ?_
        rintro _ H6 ⟨rfl, zs, hzp, hzs, S6⟩
        clear S5
        have hzl := hzp.length_eq
        have hz : zs = st.1 := by
          refine ris_ext (SoR.pairwise (by rw [hzl]; exact hzs)) hPr fun x => ?_
          rw [hzp.mem_iff, hp.mem_iff]
          exact hm.iff_ x
        subst hz
        (repeat (first | (refine Step.go ?_; intros) | refine iteB_t (by decide) ?_ | refine iteB_f (by decide) ?_ | (refine Duo.mk (by first | omega | exact rfl | decide) ?_; intros) | (refine Duo.mk (Clo.mk (by kernel_rfl)) ?_; intros)))
        rename_i r1 H7 S7
        refine nilM_V ?_
        refine gives_i S7 (mkAff _ _) fun H8 E8 S8 => ?_
        clear S6 S7
        (repeat (first | (refine Step.go ?_; intros) | refine iteB_t (by decide) ?_ | refine iteB_f (by decide) ?_ | (refine Duo.mk (by first | omega | exact rfl | decide) ?_; intros) | (refine Duo.mk (Clo.mk (by kernel_rfl)) ?_; intros)))
        refine callI_i (f := 148) (by kernel_rfl) (by kernel_rfl) (by kernel_rfl) ?_
        have J0 : SpnJ sr tp (st.2.length : Nat) T r1 [] [sl seC 9 1 q ks.length d st.1, old H] H8 := by
          refine ⟨none, 0, ?_⟩
          have S9 : Sat H8 (has g0 :: _) := has_nothing S8
          refine S9.to ?_
          apply Ent.pick
          · (repeat (first | exact Sel.here | apply Sel.there))
          refine Ent.slNil ?_
          iterate 4 (apply Ent.pick; (focus (repeat (first | exact Sel.here | apply Sel.there))))
          exact Fits.out
        refine Visit_ok (s := []) (J := SpnJ sr tp (st.2.length : Nat) T r1) (nv := .mk (.func 51) ⟨[]⟩ ⟨[pA r1]⟩) (T := T) (n := (st.2.length : Nat)) (tp := tp) (sr := sr) (g := g0) (w := List.length) (W := 1000000) (i := .mk 180 (.string ⟨#[0]⟩)) (j := .mk 180 (.string ⟨#[]⟩)) spn_vis (affG _) (affG _) (fun s l' H' h' => ?_) ?_ J0 fun H9 J9 => ?_
        · obtain ⟨p', c', S'⟩ := h'
          exact ⟨trH_of (S'.bring (c := tr g0 1 sr sr T) (by (repeat (first | exact Sel.here | apply Sel.there)))), ⟨S'.at_ (by simp)⟩, ⟨S'.at_ (by simp)⟩, g0_sub H'⟩
        · rw [vis_all hT hK, hTl]; simp; omega
        · rw [vis_all hT hK, foldV_add] at J9
          obtain ⟨p', c', S9⟩ := J9
          (repeat (first | (refine Step.go ?_; intros) | refine iteB_t (by decide) ?_ | refine iteB_f (by decide) ?_ | (refine Duo.mk (by first | omega | exact rfl | decide) ?_; intros) | (refine Duo.mk (Clo.mk (by kernel_rfl)) ?_; intros)))
          have eL : (T.inL.map fun it => outK (keyI it)) = st.2.map outK := by rw [← hT.key, List.map_map]; rfl
          rw [List.nil_append, eL] at S9
          have eN : T.inL.length = (st.2.map outK).length := by rw [hTl]; simp
          rw [List.nil_append, eN]
          rw [← hzl]
          refine ⟨q, p', d, c', rfl, S9.to ?_⟩
          rw [eN, ← hzl]
          show Ent _ [_, _, old H]
          exact Fits.out
      | succ N ih =>
        intro seen ks q d H5 hN hp S5
        have hkl1 := hkl hp
        refine F26.L0_step ?_
        unfold F26.L0n
        refine rangeNext F S5 (fun h => by rw [h] at hN; simp at hN) (fun a e b h h2 H6 S6 => ?_)
        clear S5
        have hes : e ∈ es.toList := by
          have : e ∈ unseen es seen := by rw [h]; simp
          unfold unseen at this
          exact (List.mem_filter.1 this).1
        obtain ⟨k, hk1, hk2, hk3⟩ := ent_key F hes
        have hko : keyOf e = k := by unfold keyOf; rw [hk1]
        rw [hk1, hk2]
        (repeat (first | (refine Step.go ?_; intros) | refine iteB_t (by decide) ?_ | refine iteB_f (by decide) ?_ | (refine Duo.mk (by first | omega | exact rfl | decide) ?_; intros) | (refine Duo.mk (Clo.mk (by kernel_rfl)) ?_; intros)))
        refine rangeEntry F S6 hes ?_
        rw [hk1, hk2]
        (repeat (first | (refine Step.go ?_; intros) | refine iteB_t (by decide) ?_ | refine iteB_f (by decide) ?_ | (refine Duo.mk (by first | omega | exact rfl | decide) ?_; intros) | (refine Duo.mk (Clo.mk (by kernel_rfl)) ?_; intros)))
        rename_i r7 H7 S7
        clear S6
        refine appStr (y := k) S7 (by (repeat (first | exact Sel.here | apply Sel.there))) (S7.at_ (List.mem_cons_self ..)) (by omega) fun q2 d2 H8 S8 => ?_
        refine ih (seen.push e.born) (ks ++ [k]) q2 d2 H8 (by rw [h2]; rw [h] at hN; simp at hN ⊢; omega) ?_ (S8.to ?_)
        · have := perm_next (seen' := seen.push e.born) hko hp h h2
          refine List.Perm.trans ?_ this
          refine List.Perm.append_right _ ?_
          exact List.perm_append_comm
        · iterate 6 (apply Ent.pick; (focus (repeat (first | exact Sel.here | apply Sel.there))))
          exact Fits.out
    refine loop (unseen es #[]).length #[] [] none 0 H4 rfl ?_ (S4.to ?_)
    · rw [unseen_nil, keys_of F, List.nil_append]
    · iterate 2 (apply Ent.pick; (focus (repeat (first | exact Sel.here | apply Sel.there))))
      refine Ent.slNil ?_
      iterate 3 (apply Ent.pick; (focus (repeat (first | exact Sel.here | apply Sel.there))))
      exact Fits.out
end Go.Proofs.Ytobolifgehagfaa

set_option linter.unusedVariables false
set_option linter.unusedSimpArgs false
set_option linter.unnecessarySimpa false
namespace Go.Proofs.Ytobolifgehagfaa
open Go Go.Den Go.Proofs
/-! FnOverlaps. -/
theorem sameTexts_ok {H : Heap} {xs : List SE} {p q : Option Addr} {c d : Nat} (h1 : RowsAt seC 1 H p xs) (h2 : RowsAt seC 1 H q xs) (hl : xs.length ≤ 1000000) : CallsH Try.prog 28 ⟨[.slice p xs.length c, .slice q xs.length d]⟩ H (Gives (.bool true) H) := by
  have S := Sat.start H
  have R1 : RowsC H p seC 1 xs := ⟨h1⟩
  have R2 : RowsC H q seC 1 xs := ⟨h2⟩
  have loop : ∀ (k i : Nat), i + k = xs.length → F28.L0 p xs.length c q xs.length d (xs.length : Nat) (i : Nat) H (Gives (.bool true) H) := by
    intro k
    induction k with
    | zero =>
      intro i hk
      refine F28.L0_step ?_
      unfold F28.L0n
      refine iteB_f (by simp; omega) ?_
      exact ⟨rfl, ExtH.refl _⟩
    | succ k ih =>
      intro i hk
      obtain ⟨x, hx⟩ : ∃ x, xs[i]? = some x := get_of (by omega)
      have hI := HasI.nat hx
      refine F28.L0_step ?_
      unfold F28.L0n
      refine iteB_t (by simp; omega) ?_
      refine RowsC.idx R1 rfl ⟨by omega, by omega, fun a ha => ?_⟩
      refine RowsC.idx R2 rfl ⟨by omega, by omega, fun b hb => ?_⟩
      have R1' : RowsC H (some a) seC 1 xs := ⟨by rw [← ha]; exact h1⟩
      have R2' : RowsC H (some b) seC 1 xs := ⟨by rw [← hb]; exact h2⟩
      (repeat (first | (refine Step.go ?_; intros) | refine iteB_t (by decide) ?_ | refine iteB_f (by decide) ?_ | (refine Duo.mk (by first | omega | exact rfl | decide) ?_; intros) | (refine Duo.mk (Clo.mk (by kernel_rfl)) ?_; intros)))
      rw [eqS_eq, decide_eq_true rfl]
      refine iteB_f rfl ?_
      rw [wr64 (by omega) (by omega)]
      exact ih (i + 1) (by omega)
  refine F28.calls ?_
  unfold F28.go
  refine iteB_f (by simp) ?_
  exact loop xs.length 0 (by omega)
theorem outK_key (x : SP × Int) : outK (keyX x) = outX 1 x := by
  unfold outX outS
  rw [if_neg (by decide)]
  rfl
theorem law_ok {f : Nat} {xs : List (RQ f)} {p : Option Addr} {n c : Nat} {H : Heap} (hR : RowsQ f H p n xs) : CallsH Try.prog 8 ⟨[.slice p n c]⟩ H (Gives (.bool true) H) := by
  have S := Sat.start H
  refine F8.calls ?_
  unfold F8.go
  refine iteB_i (fun _ => ⟨rfl, ExtH.refl _⟩) (fun _ => ?_)
  have live : ∀ H1, ExtH H H1 → callD Try.prog 25 [] H1 (panK (Gives (.bool true) H)) fun v H2 => tBool v fun b => Gives (.bool true) H (.returned (.bool b)) H2 := by
    intro H1 E
    refine callD_i ckLive_ok ?_
    rintro _ H2 ⟨rfl, E2⟩
    refine tBool_i ?_
    exact ⟨rfl, E.trans E2⟩
  refine callD_i (few_ok hR) ?_
  rintro _ H1 ⟨E1, b1, rfl, hb1⟩
  refine tBool_i ?_
  refine iteB_i (fun _ => live H1 E1) (fun h => ?_)
  have ht := hb1 (by simpa using h)
  have hR1 := RowsQ.ext f _ _ _ _ _ E1 hR
  refine callD_i (prop_ok f xs p n c H1 hR1) ?_
  rintro _ H2 ⟨b2, rfl, E2, hb2⟩
  refine tBool_i ?_
  refine iteB_i (fun _ => live H2 (E1.trans E2)) (fun h => ?_)
  have hp := hb2 (by simpa using h)
  have hR2 := RowsQ.ext f _ _ _ _ _ E2 hR1
  refine callD_i (behind_ok f xs p n c H2 hR2 ht) ?_
  rintro _ H3 ⟨b3, rfl, E3, _⟩
  refine tBool_i ?_
  refine iteB_i (fun _ => live H3 ((E1.trans E2).trans E3)) (fun h => ?_)
  have hR3 := RowsQ.ext f _ _ _ _ _ E3 hR2
  have E0 : ExtH H H3 := (E1.trans E2).trans E3
  have hg := good_of f hR3 hp
  refine F8.L0_step ?_
  unfold F8.L0n
  refine callD_i (overlaps_ok (c := c) hR3 ht hg) ?_
  intro e H4 he
  cases hs : spO f xs with
  | none =>
    rw [hs] at he
    obtain ⟨rfl, E4⟩ := he
    have S4 := Sat.start H4
    (repeat (first | (refine Step.go ?_; intros) | refine iteB_t (by decide) ?_ | refine iteB_f (by decide) ?_ | (refine Duo.mk (by first | omega | exact rfl | decide) ?_; intros) | (refine Duo.mk (Clo.mk (by kernel_rfl)) ?_; intros)))
    refine call_of (spec_ok f xs p n c H4 (RowsQ.ext f _ _ _ _ _ E4 hR3) ht) ?_
    intro e H5 he
    rw [hs] at he
    obtain ⟨rfl, E5⟩ := he
    have S5 := S4.ext E5
    clear S4
    (repeat (first | (refine Step.go ?_; intros) | refine iteB_t (by decide) ?_ | refine iteB_f (by decide) ?_ | (refine Duo.mk (by first | omega | exact rfl | decide) ?_; intros) | (refine Duo.mk (Clo.mk (by kernel_rfl)) ?_; intros)))
    rename_i H6 S6
    have E6 : ExtH H4 H6 := Sat.grown
    exact live H6 ((E0.trans E4).trans E6)
  | some st =>
    rw [hs] at he
    obtain ⟨q, q1, d, d1, rfl, S4⟩ := he
    simp only [List.cons_append, List.nil_append] at S4
    have E4 : ExtH H3 H4 := Sat.grown
    obtain ⟨hPl, hPr⟩ := spO_inv f hs
    (repeat (first | (refine Step.go ?_; intros) | refine iteB_t (by decide) ?_ | refine iteB_f (by decide) ?_ | (refine Duo.mk (by first | omega | exact rfl | decide) ?_; intros) | (refine Duo.mk (Clo.mk (by kernel_rfl)) ?_; intros)))
    refine call_of (spec_ok f xs p n c H4 (RowsQ.ext f _ _ _ _ _ E4 hR3) ht) ?_
    intro e H5 he
    rw [hs] at he
    obtain ⟨⟨⟨q2, d2⟩, ⟨q3, d3⟩⟩, D, rfl, hD, hDz, _, hDl, hPz, Sx⟩ := he
    have S5 := Sat.onto (m := [sl seC 9 1 q2 st.1.length d2 st.1, sl pcC 71 6 q3 D.length d3 (D.map plainX)]) Sx S4
    simp only [List.cons_append, List.nil_append] at S5
    clear Sx S4
    have hDl2 : D.length = (st.2.map outK).length := by rw [← hD]; simp
    (repeat (first | (refine Step.go ?_; intros) | refine iteB_t (by decide) ?_ | refine iteB_f (by decide) ?_ | (refine Duo.mk (by first | omega | exact rfl | decide) ?_; intros) | (refine Duo.mk (Clo.mk (by kernel_rfl)) ?_; intros)))
    rename_i r _ _ _ _ _ _ H6 S6
    refine gives_i S6 (sameTexts_ok (xs := st.1) (S6.rowsAt (f := seC) (E := 9) (z := 1) (xs := st.1) (p := q) (n := st.1.length) (k := d) (by simp)) (S6.rowsAt (f := seC) (E := 9) (z := 1) (xs := st.1) (p := q2) (n := st.1.length) (k := d2) (by simp)) (by omega)) fun H7 E7 S7 => ?_
    clear S5 S6
    (repeat (first | (refine Step.go ?_; intros) | refine iteB_t (by decide) ?_ | refine iteB_f (by decide) ?_ | (refine Duo.mk (by first | omega | exact rfl | decide) ?_; intros) | (refine Duo.mk (Clo.mk (by kernel_rfl)) ?_; intros)))
    refine iteB_f (by rw [hDl2]; simp) ?_
    refine F8.L1_step ?_
    unfold F8.L1n
    have loop : ∀ (k i : Nat) (H8 : Heap), i + k = D.length → Sat H8 [pt r (toO q2 st.1.length d2 1 q3 D.length d3), sl SP.cells 35 5 q1 (st.2.map outK).length d1 (st.2.map outK), sl pcC 71 6 q3 D.length d3 (D.map plainX), old H3] →
        F8.L2 r q1 (st.2.map outK).length d1 ((st.2.map outK).length : Nat) (i : Nat) H8 (Gives (.bool true) H) := by
      intro k
      induction k with
      | zero =>
        intro i H8 hk S8
        obtain rfl : i = D.length := by omega
        refine F8.L2_step ?_
        unfold F8.L2n
        refine iteB_f (by rw [hDl2]; simp) ?_
        exact live H8 (E0.trans Sat.grown)
      | succ k ih =>
        intro i H8 hk S8
        obtain ⟨x, hx⟩ : ∃ x, D[i]? = some x := get_of (by omega)
        have hxm := List.mem_of_getElem? hx
        have hy : (st.2.map outK)[i]? = some (outX 1 x) := by
          rw [← hD, List.map_map, List.getElem?_map, hx]
          show some (outK (keyX x)) = _
          rw [outK_key]
        have hI : HasI (D.map plainX) ((i : Nat) : Int) (plainX x) := HasI.nat (by rw [List.getElem?_map, hx]; rfl)
        have hJ := HasI.nat hy
        refine F8.L2_step ?_
        unfold F8.L2n
        refine iteB_t (by simp; simp at hDl2; omega) ?_
        refine Sat.idx (f := SP.cells) (E := 35) (z := 5) S8 ⟨by omega, by omega, fun ra oa ha => ?_⟩
        subst ha
        (repeat (first | (refine Step.go ?_; intros) | refine iteB_t (by decide) ?_ | refine iteB_f (by decide) ?_ | (refine Duo.mk (by first | omega | exact rfl | decide) ?_; intros) | (refine Duo.mk (Clo.mk (by kernel_rfl)) ?_; intros)))
        rename_i S9
        refine Sat.idx (f := pcC) (E := 71) (z := 6) S9 ⟨by omega, by omega, fun rb ob hb => ?_⟩
        subst hb
        (repeat (first | (refine Step.go ?_; intros) | refine iteB_t (by decide) ?_ | refine iteB_f (by decide) ?_ | (refine Duo.mk (by first | omega | exact rfl | decide) ?_; intros) | (refine Duo.mk (Clo.mk (by kernel_rfl)) ?_; intros)))
        refine gives_i S9 (same_ok (o := 1) (s := outX 1 x) (t := (plainX x).1) (outX_b (hDz x hxm)) (hDz x hxm)) fun H10 E10 S10 => ?_
        rw [show sameS 1 (outX 1 x) (plainX x).1 = true from sameS_out (by omega)]
        (repeat (first | (refine Step.go ?_; intros) | refine iteB_t (by decide) ?_ | refine iteB_f (by decide) ?_ | (refine Duo.mk (by first | omega | exact rfl | decide) ?_; intros) | (refine Duo.mk (Clo.mk (by kernel_rfl)) ?_; intros)))
        rw [wr64 (by omega) (by omega)]
        exact ih (i + 1) H10 (by omega) (S10.to Fits.out)
    exact loop D.length 0 H7 (by omega) (S7.to Fits.out)
end Go.Proofs.Ytobolifgehagfaa
