/- What functions of this seat do, each proved by a walk; no condition. -/
import Derived.Test.YtkenjnllegbmjaaGreatLN5
import Derived.Test.YtkenjnllegbmjaaGreatDenZC
set_option linter.unusedVariables false
set_option linter.unusedSimpArgs false
set_option linter.unnecessarySimpa false
set_option maxRecDepth 100000
namespace Go.Proofs.YtkenjnllegbmjaaGreat
open Go Go.Den Go.Proofs
/-! Texts by their bytes; what stays in memory. -/
theorem bl_cmp : ∀ (a b : List UInt8), (Lib.compareBytes a b < 0 ↔ Op.bytesLess a b = true) ∧ (Lib.compareBytes a b = 0 ↔ a = b)
  | [], [] => by simp [Lib.compareBytes, Op.bytesLess]
  | [], _ :: _ => by simp [Lib.compareBytes, Op.bytesLess]
  | _ :: _, [] => by simp [Lib.compareBytes, Op.bytesLess]
  | x :: a, y :: b => by
    obtain ⟨h1, h2⟩ := bl_cmp a b
    unfold Lib.compareBytes Op.bytesLess
    rcases Nat.lt_trichotomy x.toNat y.toNat with h | h | h
    · have hlt : x < y := h
      rw [if_pos hlt]
      have hne : x ≠ y := by intro e; subst e; omega
      simp [hlt, hne]
    · have he : x = y := UInt8.toNat.inj h
      subst he
      simp only [UInt8.lt_irrefl, if_false, decide_false, Bool.false_or, BEq.rfl, Bool.true_and, List.cons.injEq, true_and]
      exact ⟨h1, h2⟩
    · have hgt : y < x := h
      have hn : ¬ x < y := by intro hh; have : x.toNat < y.toNat := hh; omega
      have hne : x ≠ y := by intro e; subst e; omega
      rw [if_neg hn, if_pos hgt]
      simp [hn, hne]
theorem bl_flip : ∀ (a b : List UInt8), Op.bytesLess b a = (!Op.bytesLess a b && !(a == b))
  | [], [] => by simp [Op.bytesLess]
  | [], _ :: _ => by simp [Op.bytesLess]
  | _ :: _, [] => by simp [Op.bytesLess]
  | x :: a, y :: b => by
    have ih := bl_flip a b
    unfold Op.bytesLess
    rcases Nat.lt_trichotomy x.toNat y.toNat with h | h | h
    · have hlt : x < y := h
      have hn : ¬ y < x := by intro hh; have : y.toNat < x.toNat := hh; omega
      have hne : ¬ x = y := by intro e; subst e; omega
      have hne' : ¬ y = x := fun e => hne e.symm
      simp [hlt, hn, hne, hne']
    · have he : x = y := UInt8.toNat.inj h
      subst he
      simp [UInt8.lt_irrefl, ih]
    · have hgt : y < x := h
      have hn : ¬ x < y := by intro hh; have : x.toNat < y.toNat := hh; omega
      have hne : ¬ x = y := by intro e; subst e; omega
      simp [hn, hgt, hne]
theorem ltS_cmp (a b : ByteArray) : decide (Lib.compareBytes a.data.toList b.data.toList < 0) = ltS a b := by
  unfold ltS
  rw [ByteArray.toList_eq, ByteArray.toList_eq, Bool.eq_iff_iff, decide_eq_true_iff]
  exact (bl_cmp _ _).1
theorem ltS_flip (a b : ByteArray) : (!(ltS a b || eqS a b)) = ltS b a := by
  unfold ltS eqS
  rw [bl_flip a.toList b.toList, Bool.not_or]
theorem ltS_asymm {a b : ByteArray} (h : ltS a b = true) : ltS b a = false := by
  have := ltS_flip b a
  rw [h] at this
  cases hb : ltS b a with
  | false => rfl
  | true => rw [hb] at this; simp at this

theorem bl_trans : ∀ (a b c : List UInt8), Op.bytesLess a b = true → Op.bytesLess c b = false → Op.bytesLess a c = true
  | [], [], _, h, _ => by simp [Op.bytesLess] at h
  | [], _ :: _, [], _, h => by simp [Op.bytesLess] at h
  | [], _ :: _, _ :: _, _, _ => by simp [Op.bytesLess]
  | _ :: _, [], _, h, _ => by simp [Op.bytesLess] at h
  | _ :: _, _ :: _, [], _, h => by simp [Op.bytesLess] at h
  | x :: a, y :: b, z :: c, h1, h2 => by
    unfold Op.bytesLess at h1 h2 ⊢
    simp only [Bool.or_eq_true, Bool.and_eq_true, decide_eq_true_eq, beq_iff_eq, Bool.or_eq_false_iff, decide_eq_false_iff_not, Bool.and_eq_false_iff, beq_eq_false_iff_ne] at h1 h2 ⊢
    obtain ⟨h2, h3⟩ := h2
    have l : ∀ u v : UInt8, u < v ↔ u.toNat < v.toNat := fun u v => Iff.rfl
    rw [l] at h1 h2 ⊢
    rcases h1 with h1 | ⟨rfl, h1⟩
    · left; omega
    · by_cases hz : x.toNat < z.toNat
      · exact .inl hz
      · have e : x = z := UInt8.toNat.inj (by omega)
        subst e
        right
        refine ⟨rfl, bl_trans a b c h1 ?_⟩
        rcases h3 with h3 | h3
        · exact absurd rfl h3
        · cases hb : Op.bytesLess c b with
          | false => rfl
          | true => rw [hb] at h3; simp at h3
theorem ltS_trans {a b c : ByteArray} (h1 : ltS a b = true) (h2 : ltS c b = false) : ltS a c = true := bl_trans _ _ _ h1 h2
theorem eqS_nil (a : ByteArray) : eqS a (ByteArray.mk #[]) = decide (a.size = 0) := by
  unfold eqS
  rw [ByteArray.toList_eq, ByteArray.toList_eq, Bool.eq_iff_iff, decide_eq_true_iff, beq_iff_eq]
  obtain ⟨⟨l⟩⟩ := a
  show l = [] ↔ l.length = 0
  rw [List.length_eq_zero_iff]
theorem ltS_nil (a : ByteArray) (h : a.size = 0) (b : ByteArray) : ltS b a = false := by
  unfold ltS
  rw [ByteArray.toList_eq, ByteArray.toList_eq]
  obtain ⟨⟨l⟩⟩ := a
  have : l = [] := List.length_eq_zero_iff.1 h
  subst this
  show Op.bytesLess b.data.toList [] = false
  cases b.data.toList <;> rfl
theorem eqS_eq (a b : ByteArray) : eqS a b = decide (a = b) := by
  unfold eqS
  rw [ByteArray.toList_eq, ByteArray.toList_eq, Bool.eq_iff_iff, decide_eq_true_iff, beq_iff_eq]
  obtain ⟨⟨l⟩⟩ := a
  obtain ⟨⟨m⟩⟩ := b
  constructor
  · intro h; exact congrArg (fun x => ByteArray.mk (Array.mk x)) h
  · intro h; cases h; rfl
theorem lt_of {α : Type} {xs : List α} {i : Nat} {x : α} (h : xs[i]? = some x) : i < xs.length := by
  rcases Nat.lt_or_ge i xs.length with h1 | h1
  · exact h1
  · rw [List.getElem?_eq_none h1] at h; cases h
theorem get_of {α : Type} {xs : List α} {i : Nat} (h : i < xs.length) : ∃ x, xs[i]? = some x := ⟨_, List.getElem?_eq_getElem h⟩
/-- A text in memory that stays: where it is, and the room there. -/
structure Bs where
  s : ByteArray
  p : Option Addr
  c : Nat
abbrev Bs.v (b : Bs) : Value := .slice b.p b.s.size b.c
def BytsG (g : PH) (b : Bs) : Prop := ∀ H', PH.sub g (PH.of H') → cellsAt H' b.p (bytesOf b.s.data.toList)
theorem BytsG.mono {g g' : PH} {b : Bs} (h : BytsG g b) (hs : PH.sub g g') : BytsG g' b := fun H' h' => h H' (hs.trans h')
/-- A key with its value. -/
structure KR where
  k : Bs
  v : Bs
abbrev KR.cells (r : KR) : List Value := [.slice r.k.p r.k.s.size r.k.c, .slice r.v.p r.v.s.size r.v.c]
structure KrG (g : PH) (r : KR) : Prop where
  k : BytsG g r.k
  v : BytsG g r.v
theorem KrG.mono {g g' : PH} {r : KR} (h : KrG g r) (hs : PH.sub g g') : KrG g' r := ⟨h.k.mono hs, h.v.mono hs⟩
/-- Rows that stay. -/
def RowsG {α : Type} (f : α → List Value) (z : Nat) (g : PH) (q : Option Addr) (xs : List α) : Prop := ∀ H', PH.sub g (PH.of H') → RowsAt f z H' q xs
theorem RowsG.mono {α : Type} {f : α → List Value} {z : Nat} {g g' : PH} {q : Option Addr} {xs : List α} (h : RowsG f z g q xs) (hs : PH.sub g g') : RowsG f z g' q xs := fun H' h' => h H' (hs.trans h')
section
variable {H H0 : Heap} {l : List HP} {g : PH}
theorem subOf (S : Sat H l) (hm : has g ∈ l) : PH.sub g (PH.of H) := by
  obtain ⟨h', a, b⟩ := S.mem hm
  exact a.trans b
theorem has_of {c : HP} (S : Sat H (c :: l)) : ∃ g, SatP g [c] ∧ Sat H (has g :: l) := by
  obtain ⟨h, h1, h2, x⟩ := S.out
  exact ⟨h, ⟨h, h1, PH.sub.refl, trivial⟩, ⟨⟨h, PH.sub.refl, h2, x⟩⟩⟩
theorem has_join {g1 g2 : PH} (S : Sat H (has g1 :: has g2 :: l)) : ∃ g', PH.sub g1 g' ∧ PH.sub g2 g' ∧ Sat H (has g' :: l) := by
  obtain ⟨h, h1, h2, h', h3, h4, x⟩ := S.out
  refine ⟨PH.join g1 g2, ?_, ?_, PH.join h h', ?_, ?_, x.mono ?_⟩
  · intro i o e
    unfold PH.join
    rw [e]
  · intro i o e
    unfold PH.join
    cases e1 : g1 i with
    | none => exact e
    | some y =>
      have := (PH.of_minus (h4 _ _ (h3 _ _ e))).1
      rw [h1 _ _ e1] at this
      cases this
  · intro i o e
    unfold PH.join at e ⊢
    cases e1 : g1 i with
    | none =>
      rw [e1] at e
      have e2 := h3 _ _ e
      have e3 := (PH.of_minus (h4 _ _ e2)).1
      rw [e3]
      exact e2
    | some y =>
      rw [e1] at e
      cases e
      rw [h1 _ _ e1]
  · intro i o e
    unfold PH.join at e
    split at e
    · rename_i o' e'
      cases e
      exact h2 _ _ e'
    · exact (PH.of_minus (h4 _ _ e)).2
  · intro i o e
    obtain ⟨e1, e2⟩ := PH.of_minus e
    obtain ⟨e3, e4⟩ := PH.of_minus e2
    have : PH.join h h' i = none := by
      unfold PH.join
      rw [e3]
      exact e1
    rw [PH.minus_none this]
    exact e4
theorem newX {o : Obj} {K : Nat → Heap → Prop} (S : Sat H l) (k : ∀ r H1, ExtH H H1 → Sat H1 (pt r o :: l) → K r H1) : newD H o K := k _ _ (ExtH.push _ _) (S.push o)
/-- A slice's piece becomes rows that stay. -/
theorem rows_of {α : Type} {f : α → List Value} {E : TypeId} {z n c : Nat} {q : Option Addr} {xs : List α} (h : SatP g [sl f E z q n c xs]) : RowsG f z g q xs := by
  intro H' hs
  have S : Sat H' [sl f E z q n c xs] := ⟨h.mono hs⟩
  exact S.rowsAt (E := E) (n := n) (k := c) (by simp)
/-! Comparison. -/
theorem bcmp_ok {a b : Bs} (ha : cellsAt H a.p (bytesOf a.s.data.toList)) (hb : cellsAt H b.p (bytesOf b.s.data.toList)) : CallsH Tryz.prog 136 ⟨[a.v, b.v]⟩ H (Gives (.int .i64 (Lib.compareBytes a.s.data.toList b.s.data.toList)) H) := by
  refine F136.calls ?_
  unfold F136.go
  refine cmpX (fn := Tryz.f150) (by kernel_rfl) (by kernel_rfl) (by kernel_rfl) (by kernel_rfl) (by kernel_rfl) rfl rfl ha hb ?_
  exact ⟨_, rfl, rfl, ExtH.refl H⟩
theorem beq_ok {a b : Bs} (ha : cellsAt H a.p (bytesOf a.s.data.toList)) (hb : cellsAt H b.p (bytesOf b.s.data.toList)) : CallsH Tryz.prog 133 ⟨[a.v, b.v]⟩ H (Gives (.bool (decide (a.s = b.s))) H) := by
  refine F133.calls ?_
  unfold F133.go
  refine bsD_of rfl ha ?_
  refine bsD_of rfl hb ?_
  rw [eqS_eq]
  exact ⟨rfl, ExtH.refl H⟩
/-! A key's place among rising keys. -/
def Srt (xs : List KR) : Prop := xs.Pairwise fun a b => ltS a.k.s b.k.s = true
/-- So many keys stand ahead. -/
structure PlaceP (xs : List KR) (k : ByteArray) (i : Nat) : Prop where
  le : i ≤ xs.length
  lo : ∀ (j : Nat) (x : KR), j < i → xs[j]? = some x → ltS x.k.s k = true
  hi : ∀ (j : Nat) (x : KR), i ≤ j → xs[j]? = some x → ltS x.k.s k = false
end
end Go.Proofs.YtkenjnllegbmjaaGreat

set_option linter.unusedVariables false
set_option linter.unusedSimpArgs false
set_option linter.unnecessarySimpa false
set_option maxRecDepth 100000
namespace Go.Proofs.YtkenjnllegbmjaaGreat
open Go Go.Den Go.Proofs
/-! A bucket: a key's place, and a put. -/
/-- A bucket as a block: its transaction, its name, its pairs, how full. -/
abbrev bkO (tx : Nat) (name : Bs) (q : Option Addr) (n c : Nat) (fl : Nat) : Obj := .cells ⟨[.pointer (some ⟨tx, 0, none⟩), .slice name.p name.s.size name.c, .slice q n c, .float .f64 fl]⟩ 298
section
variable {H H0 : Heap} {l : List HP} {g : PH}
theorem cmp_lt (a b : ByteArray) : decide (Lib.compareBytes a.data.toList b.data.toList < 0) = ltS a b := ltS_cmp a b
theorem place_loop {b tx c : Nat} {name k : Bs} {q : Option Addr} {fl : Nat} {xs : List KR} (hR : RowsG KR.cells 2 g q xs) (hg : ∀ x ∈ xs, KrG g x) (hk : BytsG g k) (hs : Srt xs) (hn : xs.length ≤ 1000000)
    (S : Sat H (pt b (bkO tx name q xs.length c fl) :: has g :: l)) : ∀ (m lo hi : Nat) (H1 : Heap), hi - lo ≤ m → lo ≤ hi → hi ≤ xs.length → ExtH H H1 →
      (∀ (j : Nat) (x : KR), j < lo → xs[j]? = some x → ltS x.k.s k.s = true) → (∀ (j : Nat) (x : KR), hi ≤ j → xs[j]? = some x → ltS x.k.s k.s = false) →
      F268.L0 (some ⟨b, 0, none⟩) k.p k.s.size k.c (lo : Int) (hi : Int) H1 (fun e H2 => ∃ (i : Nat) (f : Bool), e = .returned (.tuple ⟨[.int .i64 (i : Int), .bool f]⟩) ∧ PlaceP xs k.s i ∧ f = (match xs[i]? with | some x => decide (x.k.s = k.s) | none => false) ∧ ExtH H H2) := by
  intro m
  induction m with
  | zero =>
    intro lo hi H1 hm h1 h2 E hlo hhi
    have S1 := S.ext E
    obtain rfl : lo = hi := by omega
    refine F268.L0_step ?_
    unfold F268.L0n
    refine iteB_f (decide_eq_false (by omega)) ?_
    (repeat (first | (refine Step.go ?_; intros) | refine iteB_t (by decide) ?_ | refine iteB_f (by decide) ?_ | (refine Duo.mk (by first | omega | exact rfl | decide) ?_; intros) | (refine Duo.mk (Clo.mk (by kernel_rfl)) ?_; intros)))
    have hP : PlaceP xs k.s lo := ⟨h2, hlo, hhi⟩
    by_cases hlt : lo < xs.length
    · refine iteB_t (decide_eq_true (by omega)) ?_
      obtain ⟨x, hx⟩ := get_of hlt
      have hI := HasI.nat hx
      have hsub := subOf S1 (by simp : has g ∈ _)
      have R1 : RowsC H1 q KR.cells 2 xs := ⟨hR H1 hsub⟩
      have S0 : Sat H1 [old H1] := Sat.start H1
      (repeat (first | (refine Step.go ?_; intros) | refine iteB_t (by decide) ?_ | refine iteB_f (by decide) ?_ | (refine Duo.mk (by first | omega | exact rfl | decide) ?_; intros) | (refine Duo.mk (Clo.mk (by kernel_rfl)) ?_; intros)))
      refine R1.idx rfl ⟨by omega, by omega, ?_⟩
      intro a ha
      subst ha
      (repeat (first | (refine Step.go ?_; intros) | refine iteB_t (by decide) ?_ | refine iteB_f (by decide) ?_ | (refine Duo.mk (by first | omega | exact rfl | decide) ?_; intros) | (refine Duo.mk (Clo.mk (by kernel_rfl)) ?_; intros)))
      have gx := hg x (List.mem_of_getElem? hx)
      refine gives_i S0 (beq_ok (a := x.k) (b := k) (gx.k H1 hsub) (hk H1 hsub)) fun H2 E2 S2 => ?_
      (repeat (first | (refine Step.go ?_; intros) | refine iteB_t (by decide) ?_ | refine iteB_f (by decide) ?_ | (refine Duo.mk (by first | omega | exact rfl | decide) ?_; intros) | (refine Duo.mk (Clo.mk (by kernel_rfl)) ?_; intros)))
      exact ⟨lo, _, rfl, hP, by rw [hx], E.trans E2⟩
    · refine iteB_f (decide_eq_false (by omega)) ?_
      exact ⟨lo, false, rfl, hP, by rw [List.getElem?_eq_none (by omega)], E⟩
  | succ m ih =>
    intro lo hi H1 hm h1 h2 E hlo hhi
    by_cases hlt : lo < hi
    · have S1 := S.ext E
      have em : IntKind.wrap .i64 (Int.tdiv (IntKind.wrap .i64 ((lo : Int) + (hi : Int))) (2 : Int)) = (((lo + hi) / 2 : Nat) : Int) := by
        rw [wr64 (i := (lo : Int) + (hi : Int)) (by omega) (by omega), Int.tdiv_eq_ediv_of_nonneg (by omega), wr64 (by omega) (by omega)]
        omega
      have hmid : lo ≤ (lo + hi) / 2 ∧ (lo + hi) / 2 < hi := ⟨by omega, by omega⟩
      generalize (lo + hi) / 2 = mid at em hmid
      obtain ⟨x, hx⟩ : ∃ x, xs[mid]? = some x := get_of (by omega)
      have hI := HasI.nat hx
      have hsub := subOf S1 (by simp : has g ∈ _)
      have R1 : RowsC H1 q KR.cells 2 xs := ⟨hR H1 hsub⟩
      have gx := hg x (List.mem_of_getElem? hx)
      refine F268.L0_step ?_
      unfold F268.L0n
      rw [em]
      refine iteB_t (decide_eq_true (by omega)) ?_
      refine ⟨by decide, ?_⟩
      (repeat (first | (refine Step.go ?_; intros) | refine iteB_t (by decide) ?_ | refine iteB_f (by decide) ?_ | (refine Duo.mk (by first | omega | exact rfl | decide) ?_; intros) | (refine Duo.mk (Clo.mk (by kernel_rfl)) ?_; intros)))
      refine R1.idx rfl ⟨by omega, by omega, ?_⟩
      intro a ha
      subst ha
      have S0 : Sat H1 [old H1] := Sat.start H1
      (repeat (first | (refine Step.go ?_; intros) | refine iteB_t (by decide) ?_ | refine iteB_f (by decide) ?_ | (refine Duo.mk (by first | omega | exact rfl | decide) ?_; intros) | (refine Duo.mk (Clo.mk (by kernel_rfl)) ?_; intros)))
      refine gives_i S0 (bcmp_ok (a := x.k) (b := k) (gx.k H1 hsub) (hk H1 hsub)) fun H2 E2 S2 => ?_
      (repeat (first | (refine Step.go ?_; intros) | refine iteB_t (by decide) ?_ | refine iteB_f (by decide) ?_ | (refine Duo.mk (by first | omega | exact rfl | decide) ?_; intros) | (refine Duo.mk (Clo.mk (by kernel_rfl)) ?_; intros)))
      rw [cmp_lt]
      refine iteB_i (fun h => ?_) (fun h => ?_)
      · rw [wr64 (by omega) (by omega), show ((mid : Nat) : Int) + 1 = ((mid + 1 : Nat) : Int) by omega]
        refine ih (mid + 1) hi H2 (by omega) (by omega) h2 (E.trans E2) ?_ hhi
        intro j y hj hy
        by_cases hjm : j = mid
        · subst hjm; rw [hx] at hy; cases hy; exact h
        · have h3 := List.pairwise_iff_getElem.1 hs j mid (lt_of hy) (lt_of hx) (by omega)
          have e1 := Option.some.inj ((List.getElem?_eq_getElem (lt_of hy)).symm.trans hy)
          have e2 := Option.some.inj ((List.getElem?_eq_getElem (lt_of hx)).symm.trans hx)
          rw [e1, e2] at h3
          exact ltS_trans h3 (ltS_asymm h)
      · refine ih lo mid H2 (by omega) (by omega) (by omega) (E.trans E2) hlo ?_
        intro j y hj hy
        by_cases hjm : j = mid
        · subst hjm; rw [hx] at hy; cases hy; exact h
        · have h3 := List.pairwise_iff_getElem.1 hs mid j (lt_of hx) (lt_of hy) (by omega)
          have e1 := Option.some.inj ((List.getElem?_eq_getElem (lt_of hy)).symm.trans hy)
          have e2 := Option.some.inj ((List.getElem?_eq_getElem (lt_of hx)).symm.trans hx)
          rw [e1, e2] at h3
          cases h4 : ltS y.k.s k.s with
          | false => rfl
          | true =>
            have := ltS_trans h3 (ltS_asymm h4)
            rw [h] at this
            cases this
    · exact (ih lo hi H1 (by omega) h1 h2 E hlo hhi)
theorem place_ok {b tx c : Nat} {name k : Bs} {q : Option Addr} {fl : Nat} {xs : List KR} (hR : RowsG KR.cells 2 g q xs) (hg : ∀ x ∈ xs, KrG g x) (hk : BytsG g k) (hs : Srt xs) (hn : xs.length ≤ 1000000)
    (S : Sat H (pt b (bkO tx name q xs.length c fl) :: has g :: l)) : CallsH Tryz.prog 268 ⟨[.pointer (some ⟨b, 0, none⟩), k.v]⟩ H (fun e H2 => ∃ (i : Nat) (f : Bool), e = .returned (.tuple ⟨[.int .i64 (i : Int), .bool f]⟩) ∧ PlaceP xs k.s i ∧ f = (match xs[i]? with | some x => decide (x.k.s = k.s) | none => false) ∧ ExtH H H2) := by
  refine F268.calls ?_
  unfold F268.go
  (repeat (first | (refine Step.go ?_; intros) | refine iteB_t (by decide) ?_ | refine iteB_f (by decide) ?_ | (refine Duo.mk (by first | omega | exact rfl | decide) ?_; intros) | (refine Duo.mk (Clo.mk (by kernel_rfl)) ?_; intros)))
  exact place_loop hR hg hk hs hn S xs.length 0 xs.length H (by omega) (by omega) (Nat.le_refl _) (ExtH.refl H) (fun j x h => by omega) (fun j x h hx => by have := lt_of hx; omega)
end
end Go.Proofs.YtkenjnllegbmjaaGreat

set_option linter.unusedVariables false
set_option linter.unusedSimpArgs false
set_option linter.unnecessarySimpa false
set_option maxRecDepth 100000
namespace Go.Proofs.YtkenjnllegbmjaaGreat
open Go Go.Den Go.Proofs
abbrev bC : UInt8 → List Value := fun b => [.int .u8 (b.toNat : Int)]
theorem flat_bytes (l : List UInt8) : l.flatMap bC = bytesOf l := by
  induction l with
  | nil => rfl
  | cons b l ih => simp [bytesOf, bC] at ih ⊢; exact ih
/-! Bytes that are only read. -/
def pcell (k : PH) (a : Addr) : Option Value :=
  match k a.block with
  | some (.cells c _ _) => if a.spot.isSome then none else c[a.off]?
  | _ => none
theorem pcell_of {H : Heap} {a : Addr} : pcell (PH.of H) a = hcell H a := rfl
theorem pcell_mono {k k' : PH} {a : Addr} {v : Value} (h : PH.sub k k') (e : pcell k a = some v) : pcell k' a = some v := by
  unfold pcell at e ⊢
  cases hb : k a.block with
  | none => rw [hb] at e; cases e
  | some o => rw [hb] at e; rw [h _ _ hb]; exact e
theorem Ent.swp {c d : HP} {l : List HP} : Ent (c :: d :: l) (d :: c :: l) := fun _ a => a.swap
/-- Bytes lie there. -/
def Rd1 (l : List HP) (p : Option Addr) (xs : List UInt8) : Prop := ∀ k, SatP k l → ∀ j b, xs[j]? = some b → ∃ a, p = some a ∧ pcell k (a.add j) = some (.int .u8 (b.toNat : Int))
section
variable {H H1 : Heap} {l m : List HP} {p : Option Addr} {xs : List UInt8} {n c : Nat} {E : TypeId}
theorem Rd1.there {d : HP} (h : Rd1 l p xs) : Rd1 (d :: l) p xs := fun k x => h k x.tail
theorem Rd1.nil : Rd1 l p [] := fun k _ j b h => by simp at h
theorem Rd1.ent (h : Rd1 l p xs) (e : Ent m l) : Rd1 m p xs := fun k x => h k (e k x)
theorem Rd1.take (h : Rd1 l p xs) (i : Nat) : Rd1 l p (xs.take i) := fun k x j b hj => h k x j b (by rw [List.getElem?_take] at hj; split at hj; exact hj; cases hj)
theorem Rd1.drop (h : Rd1 l p xs) (i c : Nat) (hc : xs.length ≤ c) : Rd1 l (slP p i c 1) (xs.drop i) := by
  intro k x j b hj
  rw [List.getElem?_drop] at hj
  obtain ⟨a, rfl, ha⟩ := h k x _ b hj
  have hl : i + j < xs.length := by
    rcases Nat.lt_or_ge (i + j) xs.length with h | h
    · exact h
    · rw [List.getElem?_eq_none h] at hj; cases hj
  unfold slP
  rw [if_neg (by omega)]
  refine ⟨_, rfl, ?_⟩
  rw [Nat.mul_one, add_add']
  exact ha
theorem Rd1.cells (h : Rd1 l p xs) (S : Sat H l) : cellsAt H p (bytesOf xs) := by
  intro j v hj
  unfold bytesOf at hj
  rw [List.getElem?_map] at hj
  cases hx : xs[j]? with
  | none => rw [hx] at hj; cases hj
  | some b =>
    rw [hx] at hj
    cases hj
    exact h _ S.out j b hx
theorem Rd1.bs (h : Rd1 l p xs) (S : Sat H l) {k : ByteArray → Prop} (hn : xs.length = n) (hk : k ⟨⟨xs⟩⟩) : bsD H p n k := ⟨xs, hn, h.cells S, hk⟩
theorem Rd1.idx (h : Rd1 l p xs) (S : Sat H l) {i : Int} {j : Nat} {b : UInt8} {k : Addr → Prop} (hi : i = (j : Int)) (hn : xs.length = n) (hb : xs[j]? = some b) (hk : ∀ a, p = some a → hcell H (a.add (Int.toNat i * 1)) = some (.int .u8 (b.toNat : Int)) → k a) : idxD p n i k := by
  subst hi
  have hl : j < xs.length := by
    rcases Nat.lt_or_ge j xs.length with h | h
    · exact h
    · rw [List.getElem?_eq_none h] at hb; cases hb
  obtain ⟨a, rfl, ha⟩ := h _ S.out j b hb
  refine ⟨by omega, by omega, hk a rfl ?_⟩
  rw [Int.toNat_natCast, Nat.mul_one]
  exact ha
theorem Rd1.of_sl (hm : sl bC E 1 p n c xs ∈ l) : Rd1 l p xs := by
  intro k x j b hj
  obtain ⟨h, ⟨a1, a2, a3, a4⟩, hs⟩ := x.mem hm
  have hl : j < xs.length := by
    rcases Nat.lt_or_ge j xs.length with h | h
    · exact h
    · rw [List.getElem?_eq_none h] at hj; cases hj
  rcases a4 with ⟨rfl, rfl⟩ | ⟨r, pre, sp, rfl, _, hb⟩
  · omega
  · refine ⟨_, rfl, ?_⟩
    rw [add_mk]
    unfold pcell
    rw [hs _ _ hb]
    simp only [Option.isSome_none, Bool.false_eq_true, if_false]
    have hf : (xs.flatMap bC)[j]? = some (.int .u8 (b.toNat : Int)) := by
      rw [flat_bytes]; unfold bytesOf; rw [List.getElem?_map, hj]; rfl
    simp only [List.getElem?_toArray]
    rw [List.append_assoc, List.getElem?_append_right (by omega), Nat.add_sub_cancel_left, List.getElem?_append_left]
    · exact hf
    · rcases Nat.lt_or_ge j (xs.flatMap bC).length with h | h
      · exact h
      · rw [List.getElem?_eq_none h] at hf; cases hf
/-- Bytes at the head of a block of their own. -/
theorem Rd1.of_pt {r : Nat} {rest : List Value} {fr : Nat × Nat} (hm : pt r (.cells ⟨bytesOf xs ++ rest⟩ E fr) ∈ l) : Rd1 l (some ⟨r, 0, none⟩) xs := by
  intro k x j b hj
  obtain ⟨h, hb, hs⟩ := x.mem hm
  refine ⟨_, rfl, ?_⟩
  rw [add_mk]
  unfold pcell
  rw [hs _ _ hb]
  simp only [Option.isSome_none, Bool.false_eq_true, if_false]
  have hf : (bytesOf xs)[j]? = some (.int .u8 (b.toNat : Int)) := by
    unfold bytesOf; rw [List.getElem?_map, hj]; rfl
  simp only [List.getElem?_toArray]
  rw [Nat.zero_add, List.getElem?_append_left]
  · exact hf
  · rcases Nat.lt_or_ge j (bytesOf xs).length with h | h
    · exact h
    · rw [List.getElem?_eq_none h] at hf; cases hf
/-- Bytes are put behind a slice. -/
theorem apB {K : Option Addr → Nat → Nat → Heap → Prop} {q p : Option Addr} {c : Nat} {xs ys : List UInt8} {m : List HP} {d : Nat} (hb : xs.length + ys.length ≤ 140737488351232) (hd : ys.length = d) (S : Sat H (sl bC 5 1 q xs.length c xs :: m)) (R : Rd1 m p ys)
    (k : ∀ q' c' H1, Sat H1 (sl bC 5 1 q' (xs ++ ys).length c' (xs ++ ys) :: m) → K q' (xs ++ ys).length c' H1) : apD H 1 1 [.int .u8 0] 5 q xs.length c p d K := by
  refine S.slApp (ys := ys) (d := d) ?_ hd (by intro y _; rfl) ?_ rfl (by decide) (by omega) fun q' c' H1 S1 => ?_
  · rw [flat_bytes]; exact R.there.cells S
  · intro v hv
    obtain ⟨b, _, hv⟩ := List.mem_flatMap.1 hv
    simp only [bC, List.mem_singleton] at hv
    subst hv; rfl
  · have e : xs.length + d = (xs ++ ys).length := by simp [hd]
    rw [e] at S1 ⊢
    exact k q' c' H1 S1
end
section
variable {H H0 : Heap} {l : List HP} {g : PH}
/-- Bytes are copied behind an empty slice; the copy stays. -/
theorem cpA {b : Bs} {r : Nat} {K : Option Addr → Nat → Nat → Heap → Prop} (hb : BytsG g b) (hz : b.s.size ≤ 140737488350000) (S1 : Sat H (pt r (.cells ⟨[]⟩ 5) :: has g :: l)) (k : ∀ (q : Option Addr) (c : Nat) (H1 : Heap) (g' : PH), PH.sub g g' → BytsG g' ⟨b.s, q, c⟩ → Sat H1 (has g' :: l) → K q b.s.size c H1) :
    apD H 1 1 [.int .u8 0] 5 (some ⟨r, 0, none⟩) 0 0 b.p b.s.size K := by
  have S2 : Sat H (sl bC 5 1 (some ⟨r, 0, none⟩) 0 0 [] :: has g :: l) := S1.to (Ent.slClose (f := bC) (xs := []) (pre := []) (sp := []) rfl (by simp) (Nat.le_refl _) rfl (by simp))
  have hc := hb H (subOf S2 (by simp))
  refine S2.slApp (ys := b.s.data.toList) (d := b.s.size) ?_ rfl (by intro y _; rfl) ?_ rfl (by decide) (by omega) fun q c H2 S3 => ?_
  · rw [flat_bytes]; exact hc
  · intro v hv
    obtain ⟨b, _, hv⟩ := List.mem_flatMap.1 hv
    simp only [bC, List.mem_singleton] at hv
    subst hv; rfl
  · rw [Nat.zero_add, List.nil_append] at S3
    rw [Nat.zero_add]
    obtain ⟨g1, h1, S4⟩ := has_of S3
    obtain ⟨g', s1, s2, S5⟩ := has_join S4
    refine k q c H2 g' s2 ?_ S5
    intro H' hs
    have SS : Sat H' [sl bC 5 1 q b.s.size c b.s.data.toList] := ⟨h1.mono (s1.trans hs)⟩
    exact (Rd1.of_sl (List.mem_cons_self ..)).cells SS
end
end Go.Proofs.YtkenjnllegbmjaaGreat

set_option linter.unusedVariables false
set_option linter.unusedSimpArgs false
set_option linter.unnecessarySimpa false
set_option maxRecDepth 100000
namespace Go.Proofs.YtkenjnllegbmjaaGreat
open Go Go.Den Go.Proofs
/-! A key behind all others is put into a bucket. -/
abbrev txO (db : Nat) (wr dn : Bool) (q : Option Addr) (n c : Nat) : Obj := .cells ⟨[.pointer (some ⟨db, 0, none⟩), .bool wr, .bool dn, .slice q n c]⟩ 283
theorem slP_zero (p : Option Addr) (c z : Nat) : slP p 0 c z = p := by
  unfold slP
  split
  · rfl
  · rw [Nat.zero_mul]
    cases p with
    | none => rfl
    | some a => simp [Addr.add]
section
variable {H H0 : Heap} {l : List HP} {g : PH}
theorem krCells (r : KR) : ∀ v ∈ r.cells, isCell v = true := by intro v hv; simp at hv; rcases hv with rfl | rfl <;> rfl
theorem put_ok {b tx db c m cm : Nat} {name k v : Bs} {q qm : Option Addr} {fl : Nat} {xs : List KR} {dn : Bool} (hR : RowsG KR.cells 2 g q xs) (hg : ∀ x ∈ xs, KrG g x) (hk : BytsG g k) (hv : BytsG g v) (hs : Srt xs) (hn : xs.length ≤ 1000000) (hc : xs.length ≤ c) (hlt : ∀ x ∈ xs, ltS x.k.s k.s = true) (hk0 : k.s.size ≠ 0) (hks : k.s.size ≤ 140737488350000) (hvs : v.s.size ≤ 140737488350000)
    (S : Sat H (pt b (bkO tx name q xs.length c fl) :: has g :: pt tx (txO db true dn qm m cm) :: l)) :
    CallsH Tryz.prog 269 ⟨[.pointer (some ⟨b, 0, none⟩), k.v, v.v]⟩ H (fun e H1 => e = .returned .nilIface ∧ ∃ (g' : PH) (q' : Option Addr) (c' : Nat) (r : KR), PH.sub g g' ∧ KrG g' r ∧ r.k.s = k.s ∧ r.v.s = v.s ∧ xs.length + 1 ≤ c' ∧ RowsG KR.cells 2 g' q' (xs ++ [r]) ∧
      Sat H1 (pt b (bkO tx name q' (xs.length + 1) c' fl) :: has g' :: pt tx (txO db true dn qm m cm) :: l)) := by
  refine F269.calls ?_
  unfold F269.go
  (repeat (first | (refine Step.go ?_; intros) | refine iteB_t (by decide) ?_ | refine iteB_f (by decide) ?_ | (refine Duo.mk (by first | omega | exact rfl | decide) ?_; intros) | (refine Duo.mk (Clo.mk (by kernel_rfl)) ?_; intros)))
  refine iteB_f (by simp [hk0]) ?_
  refine F269.L1_step ?_
  unfold F269.L1n
  refine call_of (place_ok hR hg hk hs hn S) ?_
  rintro e H1 ⟨i, f, rfl, hP, hf, E1⟩
  have hi : i = xs.length := by
    rcases Nat.lt_or_ge i xs.length with h | h
    · obtain ⟨x, hx⟩ := get_of h
      have h1 := hP.hi i x (Nat.le_refl _) hx
      rw [hlt x (List.mem_of_getElem? hx)] at h1
      cases h1
    · have := hP.le; omega
  subst hi
  rw [List.getElem?_eq_none (Nat.le_refl _)] at hf
  subst hf
  have S1 := S.ext E1
  clear S
  (repeat (first | (refine Step.go ?_; intros) | refine iteB_t (by decide) ?_ | refine iteB_f (by decide) ?_ | (refine Duo.mk (by first | omega | exact rfl | decide) ?_; intros) | (refine Duo.mk (Clo.mk (by kernel_rfl)) ?_; intros)))
  rename_i r0 H2 S2
  clear S1
  refine cpA hk hks (S2.to (m := pt r0 (.cells ⟨[]⟩ 5) :: has g :: pt b (bkO tx name q xs.length c fl) :: pt tx (txO db true dn qm m cm) :: l) (by
    iterate 4 (apply Ent.pick; (focus (repeat (first | exact Sel.here | apply Sel.there))))
    exact Ent.refl)) fun kq kc H3 g1 s1 hk1 S3 => ?_
  clear S2
  (repeat (first | (refine Step.go ?_; intros) | refine iteB_t (by decide) ?_ | refine iteB_f (by decide) ?_ | (refine Duo.mk (by first | omega | exact rfl | decide) ?_; intros) | (refine Duo.mk (Clo.mk (by kernel_rfl)) ?_; intros)))
  rename_i r1 H4 S4
  clear S3
  refine cpA (hv.mono s1) hvs (S4.to (m := pt r1 (.cells ⟨[]⟩ 5) :: has g1 :: pt b (bkO tx name q xs.length c fl) :: pt tx (txO db true dn qm m cm) :: l) (by
    iterate 4 (apply Ent.pick; (focus (repeat (first | exact Sel.here | apply Sel.there))))
    exact Ent.refl)) fun vq vc H5 g2 s2 hv2 S5 => ?_
  clear S4
  (repeat (first | (refine Step.go ?_; intros) | refine iteB_t (by decide) ?_ | refine iteB_f (by decide) ?_ | (refine Duo.mk (by first | omega | exact rfl | decide) ?_; intros) | (refine Duo.mk (Clo.mk (by kernel_rfl)) ?_; intros)))
  rename_i r2 _ _ _ _ HA SA
  rw [slP_zero, Int.toNat_natCast]
  generalize hrr : (⟨⟨k.s, kq, kc⟩, ⟨v.s, vq, vc⟩⟩ : KR) = rr at *
  have hrk : KrG g2 rr := by rw [← hrr]; exact ⟨hk1.mono s2, hv2⟩
  have hrk1 : rr.k.s = k.s := by rw [← hrr]
  have hrk2 : rr.v.s = v.s := by rw [← hrr]
  have hsub2 : PH.sub g g2 := s1.trans s2
  have SB : Sat HA (sl KR.cells 376 2 none 0 0 [] :: pt r2 (.cells ⟨rr.cells⟩ 376) :: has g2 :: pt b (bkO tx name q xs.length c fl) :: pt tx (txO db true dn qm m cm) :: l) := by
    rw [← hrr]
    exact SA.to (Ent.slNil .refl)
  have hcx : cellsAt HA q (xs.flatMap KR.cells) := (hR HA (hsub2.trans (subOf SA (by simp)))).cells (fun y => rfl)
  clear SA S5
  refine SB.slApp (ys := xs) (d := xs.length) hcx rfl (fun _ _ => rfl) ?_ rfl (by decide) (by omega) fun q3 c3 H6 S6 => ?_
  · intro w hw
    obtain ⟨y, _, hw⟩ := List.mem_flatMap.1 hw
    exact krCells y w hw
  clear SB
  rw [Nat.zero_add] at S6 ⊢
  rw [List.nil_append] at S6
  (repeat (first | (refine Step.go ?_; intros) | refine iteB_t (by decide) ?_ | refine iteB_f (by decide) ?_ | (refine Duo.mk (by first | omega | exact rfl | decide) ?_; intros) | (refine Duo.mk (Clo.mk (by kernel_rfl)) ?_; intros)))
  rename_i r3 H7 S7
  clear S6
  have S8 : Sat H7 (sl KR.cells 376 2 q3 xs.length c3 xs :: pt r3 (.cells ⟨rr.cells⟩ 376) :: has g2 :: pt b (bkO tx name q xs.length c fl) :: pt tx (txO db true dn qm m cm) :: l) := by
    refine S7.to ?_
    iterate 5 (apply Ent.pick; (focus (repeat (first | exact Sel.here | apply Sel.there))))
    exact Ent.drop .refl
  clear S7
  refine S8.slApp (ys := [rr]) (d := 1) ?_ rfl (by simp) (by simp [isCell]) rfl (by decide) (by omega) fun q4 c4 H8 S9 => ?_
  · simp only [List.flatMap_cons, List.flatMap_nil, List.append_nil]
    exact cellsAt_one (S8.at_ (List.mem_cons_of_mem _ (List.mem_cons_self ..)))
  clear S8
  refine iteB_f rfl ?_
  refine F269.L2_step ?_
  unfold F269.L2n
  (repeat (first | (refine Step.go ?_; intros) | refine iteB_t (by decide) ?_ | refine iteB_f (by decide) ?_ | (refine Duo.mk (by first | omega | exact rfl | decide) ?_; intros) | (refine Duo.mk (Clo.mk (by kernel_rfl)) ?_; intros)))
  rw [Int.toNat_natCast, Nat.sub_self]
  refine S9.slApp (ys := []) (d := 0) (fun j w h => by simp at h) rfl (fun _ h => by cases h) (fun _ h => by simp at h) rfl (by decide) (by omega) fun q5 c5 H9 SC => ?_
  clear S9
  rw [Nat.add_zero, List.append_nil] at SC
  rw [Nat.add_zero]
  (repeat (first | (refine Step.go ?_; intros) | refine iteB_t (by decide) ?_ | refine iteB_f (by decide) ?_ | (refine Duo.mk (by first | omega | exact rfl | decide) ?_; intros) | (refine Duo.mk (Clo.mk (by kernel_rfl)) ?_; intros)))
  have SD := ‹Sat _ (_ :: _)›
  rename_i HD _
  have SE : Sat HD (sl KR.cells 376 2 q5 (xs.length + 1) c5 (xs ++ [rr]) :: has g2 :: pt b (bkO tx name q5 (xs.length + 1) c5 fl) :: pt tx (txO db true dn qm m cm) :: l) := by
    refine SD.to ?_
    iterate 4 (apply Ent.pick; (focus (repeat (first | exact Sel.here | apply Sel.there))))
    exact Ent.drop .refl
  clear SC SD
  have hcap := (SE.slLen (List.mem_cons_self ..)).2
  obtain ⟨g3, h3, SF⟩ := has_of SE
  obtain ⟨g', t1, t2, SG⟩ := has_join SF
  refine ⟨rfl, g', q5, c5, rr, hsub2.trans t2, hrk.mono t2, hrk1, hrk2, hcap, (rows_of h3).mono t1, SG.to ?_⟩
  iterate 3 (apply Ent.pick; (focus (repeat (first | exact Sel.here | apply Sel.there))))
  exact Ent.refl
end
end Go.Proofs.YtkenjnllegbmjaaGreat

set_option linter.unusedVariables false
set_option linter.unusedSimpArgs false
set_option linter.unnecessarySimpa false
set_option maxRecDepth 100000
namespace Go.Proofs.YtkenjnllegbmjaaGreat
open Go Go.Den Go.Proofs
/-! A transaction's buckets. -/
structure BkI where
  b : Nat
  name : Bs
  q : Option Addr
  c : Nat
  xs : List KR
  fl : Nat
abbrev BkI.obj (tx : Nat) (x : BkI) : Obj := bkO tx x.name x.q x.xs.length x.c x.fl
structure BkG (g : PH) (x : BkI) : Prop where
  nm : BytsG g x.name
  rows : RowsG KR.cells 2 g x.q x.xs
  kr : ∀ r ∈ x.xs, KrG g r
  srt : Srt x.xs
  cap : x.xs.length ≤ x.c
theorem BkG.mono {g g' : PH} {x : BkI} (h : BkG g x) (hs : PH.sub g g') : BkG g' x := ⟨h.nm.mono hs, h.rows.mono hs, fun r hr => (h.kr r hr).mono hs, h.srt, h.cap⟩
def hitB (o : Option BkI) (s : ByteArray) : Bool := match o with | some x => decide (x.name.s = s) | none => false
def bkts (tx : Nat) : List BkI → HP
  | [] => star []
  | x :: L => star [pt x.b (x.obj tx), bkts tx L]
abbrev ptrC (b : Nat) : List Value := [.pointer (some ⟨b, 0, none⟩)]
section
variable {H H0 : Heap} {l : List HP} {g : PH} {tx : Nat}
theorem bkts_nil : Ent l (bkts tx [] :: l) := Ent.star .refl
theorem bkts_cons {x : BkI} {L : List BkI} : Ent (pt x.b (x.obj tx) :: bkts tx L :: l) (bkts tx (x :: L) :: l) := Ent.star .refl
theorem bkts_uncons {x : BkI} {L : List BkI} : Ent (bkts tx (x :: L) :: l) (pt x.b (x.obj tx) :: bkts tx L :: l) := Ent.starL .refl
theorem bkts_out {x : BkI} {B : List BkI} : ∀ {A : List BkI}, Ent (bkts tx (A ++ x :: B) :: l) (pt x.b (x.obj tx) :: bkts tx (A ++ B) :: l)
  | [] => bkts_uncons
  | y :: A => by
    refine Ent.trans (bkts_uncons (L := A ++ x :: B)) ?_
    refine Ent.trans (Ent.cons (bkts_out (A := A))) ?_
    refine Ent.trans ?_ (Ent.cons (bkts_cons (x := y) (L := A ++ B)))
    iterate 3 (apply Ent.pick; (focus (repeat (first | exact Sel.here | apply Sel.there))))
    exact Ent.refl
theorem bkts_in {x : BkI} {B : List BkI} : ∀ {A : List BkI}, Ent (pt x.b (x.obj tx) :: bkts tx (A ++ B) :: l) (bkts tx (A ++ x :: B) :: l)
  | [] => bkts_cons
  | y :: A => by
    refine Ent.trans ?_ (bkts_cons (L := A ++ x :: B))
    refine Ent.trans (Ent.cons (bkts_uncons (x := y) (L := A ++ B))) ?_
    refine Ent.trans ?_ (Ent.cons (bkts_in (A := A)))
    iterate 3 (apply Ent.pick; (focus (repeat (first | exact Sel.here | apply Sel.there))))
    exact Ent.refl
theorem bkts_at {B : List BkI} {x : BkI} (h : x ∈ B) (S : Sat H l) (hm : bkts tx B ∈ l) : H[x.b]? = some (x.obj tx) := by
  obtain ⟨A, C, rfl⟩ := List.append_of_mem h
  obtain ⟨h', a, b⟩ := S.mem hm
  have S1 : Sat H [bkts tx (A ++ x :: C)] := ⟨⟨h', a, b, trivial⟩⟩
  exact (S1.to bkts_out).at_ (List.mem_cons_self ..)
/-- A transaction in memory. -/
abbrev txM (tx db : Nat) (wr dn : Bool) (B : List BkI) (p : Option Addr) (c : Nat) (g : PH) (l : List HP) : List HP := pt tx (txO db wr dn p B.length c) :: sl ptrC 299 1 p B.length c (B.map BkI.b) :: bkts tx B :: has g :: l
theorem tplace_ok {db : Nat} {wr dn : Bool} {B : List BkI} {p : Option Addr} {c i : Nat} {nm : Bs} (hg : ∀ x ∈ B, BkG g x) (hn : BytsG g nm) (hl : B.length ≤ 1000) (hi : i ≤ B.length) (hlo : ∀ (j : Nat) (x : BkI), j < i → B[j]? = some x → ltS x.name.s nm.s = true) (hhi : ∀ x, B[i]? = some x → ltS x.name.s nm.s = false)
    (S : Sat H (txM tx db wr dn B p c g l)) :
    CallsH Tryz.prog 248 ⟨[.pointer (some ⟨tx, 0, none⟩), nm.v]⟩ H (Gives (.tuple ⟨[.int .i64 (i : Int), .bool (hitB B[i]? nm.s)]⟩) H) := by
  refine F248.calls ?_
  unfold F248.go
  have loop : ∀ (k j : Nat) (H1 : Heap), j + k = i → ExtH H H1 → F248.L0 (some ⟨tx, 0, none⟩) nm.p nm.s.size nm.c (j : Int) H1 (Gives (.tuple ⟨[.int .i64 (i : Int), .bool (hitB B[i]? nm.s)]⟩) H) := by
    intro k
    induction k with
    | zero =>
      intro j H1 hj E
      obtain rfl : j = i := by omega
      have S1 := S.ext E
      have last : ∀ H2, ExtH H H2 → F248.L1 (some ⟨tx, 0, none⟩) nm.p nm.s.size nm.c (j : Int) H2 (Gives (.tuple ⟨[.int .i64 (j : Int), .bool (hitB B[j]? nm.s)]⟩) H) := by
        intro H2 E2
        have S2 := S.ext E2
        clear S1
        refine F248.L1_step ?_
        unfold F248.L1n
        (repeat (first | (refine Step.go ?_; intros) | refine iteB_t (by decide) ?_ | refine iteB_f (by decide) ?_ | (refine Duo.mk (by first | omega | exact rfl | decide) ?_; intros) | (refine Duo.mk (Clo.mk (by kernel_rfl)) ?_; intros)))
        by_cases hlt : j < B.length
        · obtain ⟨x, hx⟩ := get_of hlt
          have hx' : (B.map BkI.b)[j]? = some x.b := by rw [List.getElem?_map, hx]; rfl
          have hI := HasI.nat hx'
          have B1 : Blc H2 x.b _ := ⟨bkts_at (tx := tx) (List.mem_of_getElem? hx) S2 (by simp)⟩
          have hsub := subOf S2 (by simp : has g ∈ _)
          have gx := hg x (List.mem_of_getElem? hx)
          refine iteB_t (decide_eq_true (by omega)) ?_
          (repeat (first | (refine Step.go ?_; intros) | refine iteB_t (by decide) ?_ | refine iteB_f (by decide) ?_ | (refine Duo.mk (by first | omega | exact rfl | decide) ?_; intros) | (refine Duo.mk (Clo.mk (by kernel_rfl)) ?_; intros)))
          refine Sat.idx (f := ptrC) (E := 299) (z := 1) (xs := B.map BkI.b) (n := B.length) (c := c) S2 ⟨by omega, by omega, fun r0 o0 hr0 => ?_⟩
          subst hr0
          (repeat (first | (refine Step.go ?_; intros) | refine iteB_t (by decide) ?_ | refine iteB_f (by decide) ?_ | (refine Duo.mk (by first | omega | exact rfl | decide) ?_; intros) | (refine Duo.mk (Clo.mk (by kernel_rfl)) ?_; intros)))
          refine gives_i S2 (beq_ok (a := x.name) (b := nm) (gx.nm H2 hsub) (hn H2 hsub)) fun H3 E3 S3 => ?_
          (repeat (first | (refine Step.go ?_; intros) | refine iteB_t (by decide) ?_ | refine iteB_f (by decide) ?_ | (refine Duo.mk (by first | omega | exact rfl | decide) ?_; intros) | (refine Duo.mk (Clo.mk (by kernel_rfl)) ?_; intros)))
          rw [hx]
          exact ⟨rfl, E2.trans E3⟩
        · refine iteB_f (decide_eq_false (by omega)) ?_
          rw [List.getElem?_eq_none (by omega)]
          exact ⟨rfl, E2⟩
      refine F248.L0_step ?_
      unfold F248.L0n
      (repeat (first | (refine Step.go ?_; intros) | refine iteB_t (by decide) ?_ | refine iteB_f (by decide) ?_ | (refine Duo.mk (by first | omega | exact rfl | decide) ?_; intros) | (refine Duo.mk (Clo.mk (by kernel_rfl)) ?_; intros)))
      by_cases hlt : j < B.length
      · obtain ⟨x, hx⟩ := get_of hlt
        have hx' : (B.map BkI.b)[j]? = some x.b := by rw [List.getElem?_map, hx]; rfl
        have hI := HasI.nat hx'
        have B1 : Blc H1 x.b _ := ⟨bkts_at (tx := tx) (List.mem_of_getElem? hx) S1 (by simp)⟩
        have hsub := subOf S1 (by simp : has g ∈ _)
        have gx := hg x (List.mem_of_getElem? hx)
        refine iteB_t (decide_eq_true (by omega)) ?_
        (repeat (first | (refine Step.go ?_; intros) | refine iteB_t (by decide) ?_ | refine iteB_f (by decide) ?_ | (refine Duo.mk (by first | omega | exact rfl | decide) ?_; intros) | (refine Duo.mk (Clo.mk (by kernel_rfl)) ?_; intros)))
        refine Sat.idx (f := ptrC) (E := 299) (z := 1) (xs := B.map BkI.b) (n := B.length) (c := c) S1 ⟨by omega, by omega, fun r0 o0 hr0 => ?_⟩
        subst hr0
        (repeat (first | (refine Step.go ?_; intros) | refine iteB_t (by decide) ?_ | refine iteB_f (by decide) ?_ | (refine Duo.mk (by first | omega | exact rfl | decide) ?_; intros) | (refine Duo.mk (Clo.mk (by kernel_rfl)) ?_; intros)))
        refine gives_i S1 (bcmp_ok (a := x.name) (b := nm) (gx.nm H1 hsub) (hn H1 hsub)) fun H3 E3 S3 => ?_
        (repeat (first | (refine Step.go ?_; intros) | refine iteB_t (by decide) ?_ | refine iteB_f (by decide) ?_ | (refine Duo.mk (by first | omega | exact rfl | decide) ?_; intros) | (refine Duo.mk (Clo.mk (by kernel_rfl)) ?_; intros)))
        rw [cmp_lt, hhi x hx]
        refine iteB_f rfl ?_
        exact last H3 (E.trans E3)
      · refine iteB_f (decide_eq_false (by omega)) ?_
        exact last H1 E
    | succ k ih =>
      intro j H1 hj E
      have S1 := S.ext E
      obtain ⟨x, hx⟩ : ∃ x, B[j]? = some x := get_of (by omega)
      have hx' : (B.map BkI.b)[j]? = some x.b := by rw [List.getElem?_map, hx]; rfl
      have hI := HasI.nat hx'
      have B1 : Blc H1 x.b _ := ⟨bkts_at (tx := tx) (List.mem_of_getElem? hx) S1 (by simp)⟩
      have hsub := subOf S1 (by simp : has g ∈ _)
      have gx := hg x (List.mem_of_getElem? hx)
      refine F248.L0_step ?_
      unfold F248.L0n
      (repeat (first | (refine Step.go ?_; intros) | refine iteB_t (by decide) ?_ | refine iteB_f (by decide) ?_ | (refine Duo.mk (by first | omega | exact rfl | decide) ?_; intros) | (refine Duo.mk (Clo.mk (by kernel_rfl)) ?_; intros)))
      refine iteB_t (decide_eq_true (by omega)) ?_
      (repeat (first | (refine Step.go ?_; intros) | refine iteB_t (by decide) ?_ | refine iteB_f (by decide) ?_ | (refine Duo.mk (by first | omega | exact rfl | decide) ?_; intros) | (refine Duo.mk (Clo.mk (by kernel_rfl)) ?_; intros)))
      obtain ⟨ra, oa, rfl⟩ := S1.slSome (f := ptrC) (E := 299) (z := 1) (p := p) (n := B.length) (c := c) (xs := B.map BkI.b) (by simp) (by omega)
      refine Sat.idx (f := ptrC) (E := 299) (z := 1) (xs := B.map BkI.b) (n := B.length) (c := c) S1 ⟨by omega, by omega, fun r0 o0 hr0 => ?_⟩
      cases hr0
      (repeat (first | (refine Step.go ?_; intros) | refine iteB_t (by decide) ?_ | refine iteB_f (by decide) ?_ | (refine Duo.mk (by first | omega | exact rfl | decide) ?_; intros) | (refine Duo.mk (Clo.mk (by kernel_rfl)) ?_; intros)))
      refine gives_i S1 (bcmp_ok (a := x.name) (b := nm) (gx.nm H1 hsub) (hn H1 hsub)) fun H3 E3 S3 => ?_
      (repeat (first | (refine Step.go ?_; intros) | refine iteB_t (by decide) ?_ | refine iteB_f (by decide) ?_ | (refine Duo.mk (by first | omega | exact rfl | decide) ?_; intros) | (refine Duo.mk (Clo.mk (by kernel_rfl)) ?_; intros)))
      rw [cmp_lt, hlo j x (by omega) hx]
      refine iteB_t rfl ?_
      refine F248.L2_step ?_
      unfold F248.L2n
      rw [wr64 (by omega) (by omega), show ((j : Nat) : Int) + 1 = ((j + 1 : Nat) : Int) by omega]
      exact ih (j + 1) H3 (by omega) (E.trans E3)
  exact loop i 0 H (by omega) (ExtH.refl H)
end
end Go.Proofs.YtkenjnllegbmjaaGreat

set_option linter.unusedVariables false
set_option linter.unusedSimpArgs false
set_option linter.unnecessarySimpa false
set_option maxRecDepth 100000
namespace Go.Proofs.YtkenjnllegbmjaaGreat
open Go Go.Den Go.Proofs
/-! A bucket by its name; a transaction begins. -/
theorem ltS_irr (a : ByteArray) : ltS a a = false := by
  cases h : ltS a a with
  | false => rfl
  | true => have := ltS_asymm h; rw [h] at this; cases this
abbrev idC (x : List Value) : List Value := x
/-- A bucket's data, as the base keeps it. -/
structure DtI where
  name : Bs
  q : Option Addr
  c : Nat
  xs : List KR
abbrev DtI.cells (x : DtI) : List Value := [.slice x.name.p x.name.s.size x.name.c, .slice x.q x.xs.length x.c]
structure DtG (g : PH) (x : DtI) : Prop where
  nm : BytsG g x.name
  rows : RowsG KR.cells 2 g x.q x.xs
  kr : ∀ r ∈ x.xs, KrG g r
  srt : Srt x.xs
  cap : x.xs.length ≤ x.c
theorem DtG.mono {g g' : PH} {x : DtI} (h : DtG g x) (hs : PH.sub g g') : DtG g' x := ⟨h.nm.mono hs, h.rows.mono hs, fun r hr => (h.kr r hr).mono hs, h.srt, h.cap⟩
def DtI.bk (x : DtI) (b : Nat) : BkI := ⟨b, x.name, x.q, x.c, x.xs, 0⟩
def BkI.dt (x : BkI) : DtI := ⟨x.name, x.q, x.c, x.xs⟩
theorem DtG.bk {g : PH} {x : DtI} (h : DtG g x) (b : Nat) : BkG g (x.bk b) := ⟨h.nm, h.rows, h.kr, h.srt, h.cap⟩
theorem BkG.dt {g : PH} {x : BkI} (h : BkG g x) : DtG g x.dt := ⟨h.nm, h.rows, h.kr, h.srt, h.cap⟩
section
variable {H H0 : Heap} {l : List HP} {g : PH} {tx : Nat}
theorem bucket_ok {db : Nat} {wr dn : Bool} {B : List BkI} {p : Option Addr} {c i : Nat} {nm : Bs} {x : BkI} (hg : ∀ x ∈ B, BkG g x) (hn : BytsG g nm) (hl : B.length ≤ 1000) (hx : B[i]? = some x) (hxn : x.name.s = nm.s) (hlo : ∀ (j : Nat) (x : BkI), j < i → B[j]? = some x → ltS x.name.s nm.s = true)
    (S : Sat H (txM tx db wr dn B p c g l)) :
    CallsH Tryz.prog 246 ⟨[.pointer (some ⟨tx, 0, none⟩), nm.v]⟩ H (Gives (.pointer (some ⟨x.b, 0, none⟩)) H) := by
  have hlt := lt_of hx
  refine F246.calls ?_
  unfold F246.go
  refine gives_i S (tplace_ok hg hn hl (by omega) hlo (fun y hy => by rw [hx] at hy; cases hy; rw [hxn]; exact ltS_irr _) S) fun H1 E1 S1 => ?_
  have hx' : (B.map BkI.b)[i]? = some x.b := by rw [List.getElem?_map, hx]; rfl
  have hI := HasI.nat hx'
  clear S
  (repeat (first | (refine Step.go ?_; intros) | refine iteB_t (by decide) ?_ | refine iteB_f (by decide) ?_ | (refine Duo.mk (by first | omega | exact rfl | decide) ?_; intros) | (refine Duo.mk (Clo.mk (by kernel_rfl)) ?_; intros)))
  rw [hx]
  refine iteB_f (by simp [hitB, hxn]) ?_
  (repeat (first | (refine Step.go ?_; intros) | refine iteB_t (by decide) ?_ | refine iteB_f (by decide) ?_ | (refine Duo.mk (by first | omega | exact rfl | decide) ?_; intros) | (refine Duo.mk (Clo.mk (by kernel_rfl)) ?_; intros)))
  refine Sat.idx (f := ptrC) (E := 299) (z := 1) (xs := B.map BkI.b) (n := B.length) (c := c) S1 ⟨by omega, by omega, fun r0 o0 hr0 => ?_⟩
  subst hr0
  (repeat (first | (refine Step.go ?_; intros) | refine iteB_t (by decide) ?_ | refine iteB_f (by decide) ?_ | (refine Duo.mk (by first | omega | exact rfl | decide) ?_; intros) | (refine Duo.mk (Clo.mk (by kernel_rfl)) ?_; intros)))
  exact ⟨rfl, E1⟩
theorem begin_ok {db : Nat} {wr : Bool} {D : List DtI} {p : Option Addr} {c : Nat} (hg : ∀ x ∈ D, DtG g x) (hR : RowsG DtI.cells 2 g p D) (hl : D.length ≤ 1000)
    (S : Sat H (pt db (.cells ⟨[.slice p D.length c]⟩ 55) :: has g :: l)) :
    CallsH Tryz.prog 140 ⟨[.pointer (some ⟨db, 0, none⟩), .bool wr]⟩ H (fun e H1 => ∃ (x : (Nat × List BkI) × (Option Addr × Nat)), e = .returned (.tuple ⟨[.pointer (some ⟨x.1.1, 0, none⟩), .nilIface]⟩) ∧ x.1.2.map BkI.dt = D ∧
      Sat H1 (pt x.1.1 (txO db wr false x.2.1 D.length x.2.2) :: sl ptrC 299 1 x.2.1 D.length x.2.2 (x.1.2.map BkI.b) :: bkts x.1.1 x.1.2 :: pt db (.cells ⟨[.slice p D.length c]⟩ 55) :: has g :: l)) := by
  refine F140.calls ?_
  unfold F140.go
  (repeat (first | (refine Step.go ?_; intros) | refine iteB_t (by decide) ?_ | refine iteB_f (by decide) ?_ | (refine Duo.mk (by first | omega | exact rfl | decide) ?_; intros) | (refine Duo.mk (Clo.mk (by kernel_rfl)) ?_; intros)))
  rename_i tx H1 S1
  clear S
  have loop : ∀ (k i : Nat) (B : List BkI) (q : Option Addr) (qc : Nat) (H : Heap), i + k = D.length → B.map BkI.dt = D.take i → Sat H (sl ptrC 299 1 q i qc (B.map BkI.b) :: pt tx (txO db wr false q i qc) :: bkts tx B :: pt db (.cells ⟨[.slice p D.length c]⟩ 55) :: has g :: l) →
      F140.L0 (some ⟨db, 0, none⟩) tx (i : Int) H (fun e H1 => ∃ (x : (Nat × List BkI) × (Option Addr × Nat)), e = .returned (.tuple ⟨[.pointer (some ⟨x.1.1, 0, none⟩), .nilIface]⟩) ∧ x.1.2.map BkI.dt = D ∧
      Sat H1 (pt x.1.1 (txO db wr false x.2.1 D.length x.2.2) :: sl ptrC 299 1 x.2.1 D.length x.2.2 (x.1.2.map BkI.b) :: bkts x.1.1 x.1.2 :: pt db (.cells ⟨[.slice p D.length c]⟩ 55) :: has g :: l)) := by
    intro k
    induction k with
    | zero =>
      intro i B q qc H hi hB S
      obtain rfl : i = D.length := by omega
      rw [List.take_length] at hB
      refine F140.L0_step ?_
      unfold F140.L0n
      (repeat (first | (refine Step.go ?_; intros) | refine iteB_t (by decide) ?_ | refine iteB_f (by decide) ?_ | (refine Duo.mk (by first | omega | exact rfl | decide) ?_; intros) | (refine Duo.mk (Clo.mk (by kernel_rfl)) ?_; intros)))
      refine iteB_f (decide_eq_false (by omega)) ?_
      refine ⟨((tx, B), (q, qc)), rfl, hB, S.to ?_⟩
      iterate 2 (apply Ent.pick; (focus (repeat (first | exact Sel.here | apply Sel.there))))
      exact Ent.refl
    | succ k ih =>
      intro i B q qc H hi hB S
      obtain ⟨x, hx⟩ : ∃ x, D[i]? = some x := get_of (by omega)
      have hI := HasI.nat hx
      have hsub := subOf S (by simp : has g ∈ _)
      have R0 : RowsC H p DtI.cells 2 D := ⟨hR H hsub⟩
      have hBl : B.length = i := by have := congrArg List.length hB; rw [List.length_map, List.length_take] at this; omega
      refine F140.L0_step ?_
      unfold F140.L0n
      (repeat (first | (refine Step.go ?_; intros) | refine iteB_t (by decide) ?_ | refine iteB_f (by decide) ?_ | (refine Duo.mk (by first | omega | exact rfl | decide) ?_; intros) | (refine Duo.mk (Clo.mk (by kernel_rfl)) ?_; intros)))
      refine iteB_t (decide_eq_true (by omega)) ?_
      (repeat (first | (refine Step.go ?_; intros) | refine iteB_t (by decide) ?_ | refine iteB_f (by decide) ?_ | (refine Duo.mk (by first | omega | exact rfl | decide) ?_; intros) | (refine Duo.mk (Clo.mk (by kernel_rfl)) ?_; intros)))
      refine R0.idx rfl ⟨by omega, by omega, ?_⟩
      intro a ha
      subst ha
      have c1 := hR H hsub
      rcases c1 with c1 | ⟨a', e1, c1⟩
      · rw [c1] at hx; simp at hx
      cases e1
      have h1 := c1 i x hx 0 (.slice x.name.p x.name.s.size x.name.c) rfl
      have h2 := c1 i x hx 1 (.slice x.q x.xs.length x.c) rfl
      refine ⟨_, _, _, by rw [Int.toNat_natCast]; exact h1, ?_⟩
      refine ⟨_, _, _, by rw [Int.toNat_natCast]; exact h2, ?_⟩
      (repeat (first | (refine Step.go ?_; intros) | refine iteB_t (by decide) ?_ | refine iteB_f (by decide) ?_ | (refine Duo.mk (by first | omega | exact rfl | decide) ?_; intros) | (refine Duo.mk (Clo.mk (by kernel_rfl)) ?_; intros)))
      rename_i b H2 S2 r1 H3 S3
      clear S S2
      have S4 : Sat H3 (sl ptrC 299 1 q i qc (B.map BkI.b) :: pt r1 (.cells ⟨ptrC b⟩ 299) :: pt b ((x.bk b).obj tx) :: pt tx (txO db wr false q i qc) :: bkts tx B :: pt db (.cells ⟨[.slice (some a) D.length c]⟩ 55) :: has g :: l) := by
        refine S3.to ?_
        iterate 5 (apply Ent.pick; (focus (repeat (first | exact Sel.here | apply Sel.there))))
        exact Ent.refl
      clear S3
      refine S4.slApp (ys := [b]) (d := 1) ?_ rfl (by simp) (by simp [isCell]) rfl (by decide) (by omega) fun q4 c4 H8 S9 => ?_
      · simp only [List.flatMap_cons, List.flatMap_nil, List.append_nil]
        exact cellsAt_one (S4.at_ (List.mem_cons_of_mem _ (List.mem_cons_self ..)))
      clear S4
      (repeat (first | (refine Step.go ?_; intros) | refine iteB_t (by decide) ?_ | refine iteB_f (by decide) ?_ | (refine Duo.mk (by first | omega | exact rfl | decide) ?_; intros) | (refine Duo.mk (Clo.mk (by kernel_rfl)) ?_; intros)))
      have SD := ‹Sat _ (_ :: _)›
      rename_i HD _
      rw [wr64 (by omega) (by omega), show ((i : Nat) : Int) + 1 = ((i + 1 : Nat) : Int) by omega]
      refine ih (i + 1) (B ++ [x.bk b]) q4 c4 HD (by omega) (by rw [List.map_append, hB, List.take_add_one, hx]; rfl) ?_
      rw [List.map_append]
      have SE : Sat HD (pt b ((x.bk b).obj tx) :: bkts tx (B ++ []) :: sl ptrC 299 1 q4 (i + 1) c4 (B.map BkI.b ++ [b]) :: pt tx (txO db wr false q4 (i + 1) c4) :: pt db (.cells ⟨[.slice (some a) D.length c]⟩ 55) :: has g :: l) := by
        rw [List.append_nil]
        refine SD.to ?_
        iterate 6 (apply Ent.pick; (focus (repeat (first | exact Sel.here | apply Sel.there))))
        exact Ent.drop .refl
      refine (SE.to (bkts_in (x := x.bk b) (A := B) (B := []))).to ?_
      iterate 5 (apply Ent.pick; (focus (repeat (first | exact Sel.here | apply Sel.there))))
      exact Ent.refl
  refine loop D.length 0 [] none 0 H1 (by omega) rfl (S1.to (Ent.slNil ?_))
  apply Ent.pick
  · focus (repeat (first | exact Sel.here | apply Sel.there))
  exact bkts_nil
end
end Go.Proofs.YtkenjnllegbmjaaGreat

set_option linter.unusedVariables false
set_option linter.unusedSimpArgs false
set_option linter.unnecessarySimpa false
set_option maxRecDepth 100000
namespace Go.Proofs.YtkenjnllegbmjaaGreat
open Go Go.Den Go.Proofs
/-! A transaction is committed. -/
abbrev dbO (q : Option Addr) (n c : Nat) : Obj := .cells ⟨[.slice q n c]⟩ 55
section
variable {H H0 : Heap} {l : List HP} {g : PH} {tx : Nat}
theorem commitT_ok {db n0 c0 : Nat} {B : List BkI} {p p0 : Option Addr} {c : Nat} (hl : B.length ≤ 1000)
    (S : Sat H (txM tx db true false B p c g (pt db (dbO p0 n0 c0) :: l))) :
    CallsH Tryz.prog 130 ⟨[.pointer (some ⟨tx, 0, none⟩)]⟩ H (fun e H1 => e = .returned .nilIface ∧ ∃ (g' : PH) (q' : Option Addr) (c' : Nat), PH.sub g g' ∧ RowsG DtI.cells 2 g' q' (B.map BkI.dt) ∧ Sat H1 (txM tx db true true B p c g' (pt db (dbO q' B.length c') :: l))) := by
  refine F130.calls ?_
  unfold F130.go
  (repeat (first | (refine Step.go ?_; intros) | refine iteB_t (by decide) ?_ | refine iteB_f (by decide) ?_ | (refine Duo.mk (by first | omega | exact rfl | decide) ?_; intros) | (refine Duo.mk (Clo.mk (by kernel_rfl)) ?_; intros)))
  refine F130.L1_step ?_
  unfold F130.L1n
  (repeat (first | (refine Step.go ?_; intros) | refine iteB_t (by decide) ?_ | refine iteB_f (by decide) ?_ | (refine Duo.mk (by first | omega | exact rfl | decide) ?_; intros) | (refine Duo.mk (Clo.mk (by kernel_rfl)) ?_; intros)))
  rename_i H1 S1
  clear S
  have loop : ∀ (k i : Nat) (q : Option Addr) (qc : Nat) (H : Heap), i + k = B.length → Sat H (sl DtI.cells 296 2 q i qc ((B.take i).map BkI.dt) :: txM tx db true true B p c g (pt db (dbO p0 n0 c0) :: l)) →
      F130.L2 (some ⟨tx, 0, none⟩) q i qc (i : Int) H (fun e H1 => e = .returned .nilIface ∧ ∃ (g' : PH) (q' : Option Addr) (c' : Nat), PH.sub g g' ∧ RowsG DtI.cells 2 g' q' (B.map BkI.dt) ∧ Sat H1 (txM tx db true true B p c g' (pt db (dbO q' B.length c') :: l))) := by
    intro k
    induction k with
    | zero =>
      intro i q qc H hi S
      obtain rfl : i = B.length := by omega
      rw [List.take_length] at S
      refine F130.L2_step ?_
      unfold F130.L2n
      (repeat (first | (refine Step.go ?_; intros) | refine iteB_t (by decide) ?_ | refine iteB_f (by decide) ?_ | (refine Duo.mk (by first | omega | exact rfl | decide) ?_; intros) | (refine Duo.mk (Clo.mk (by kernel_rfl)) ?_; intros)))
      refine iteB_f (decide_eq_false (by omega)) ?_
      (repeat (first | (refine Step.go ?_; intros) | refine iteB_t (by decide) ?_ | refine iteB_f (by decide) ?_ | (refine Duo.mk (by first | omega | exact rfl | decide) ?_; intros) | (refine Duo.mk (Clo.mk (by kernel_rfl)) ?_; intros)))
      rename_i HD SD
      clear S
      obtain ⟨g3, h3, SF⟩ := has_of (SD.to (m := sl DtI.cells 296 2 q B.length qc (B.map BkI.dt) :: has g :: pt tx (txO db true true p B.length c) :: sl ptrC 299 1 p B.length c (B.map BkI.b) :: bkts tx B :: pt db (dbO q B.length qc) :: l) (by
        iterate 6 (apply Ent.pick; (focus (repeat (first | exact Sel.here | apply Sel.there))))
        exact Ent.refl))
      obtain ⟨g', t1, t2, SG⟩ := has_join SF
      refine ⟨rfl, g', q, qc, t2, (rows_of h3).mono t1, SG.to ?_⟩
      iterate 5 (apply Ent.pick; (focus (repeat (first | exact Sel.here | apply Sel.there))))
      exact Ent.refl
    | succ k ih =>
      intro i q qc H hi S
      obtain ⟨x, hx⟩ : ∃ x, B[i]? = some x := get_of (by omega)
      have hx' : (B.map BkI.b)[i]? = some x.b := by rw [List.getElem?_map, hx]; rfl
      have hI := HasI.nat hx'
      have B1 : Blc H x.b _ := ⟨bkts_at (tx := tx) (List.mem_of_getElem? hx) S (by simp)⟩
      refine F130.L2_step ?_
      unfold F130.L2n
      (repeat (first | (refine Step.go ?_; intros) | refine iteB_t (by decide) ?_ | refine iteB_f (by decide) ?_ | (refine Duo.mk (by first | omega | exact rfl | decide) ?_; intros) | (refine Duo.mk (Clo.mk (by kernel_rfl)) ?_; intros)))
      refine iteB_t (decide_eq_true (by omega)) ?_
      (repeat (first | (refine Step.go ?_; intros) | refine iteB_t (by decide) ?_ | refine iteB_f (by decide) ?_ | (refine Duo.mk (by first | omega | exact rfl | decide) ?_; intros) | (refine Duo.mk (Clo.mk (by kernel_rfl)) ?_; intros)))
      obtain ⟨ra, oa, rfl⟩ := S.slSome (f := ptrC) (E := 299) (z := 1) (p := p) (n := B.length) (c := c) (xs := B.map BkI.b) (by simp) (by omega)
      refine Sat.idx (f := ptrC) (E := 299) (z := 1) (xs := B.map BkI.b) (n := B.length) (c := c) S ⟨by omega, by omega, fun r0 o0 hr0 => ?_⟩
      cases hr0
      (repeat (first | (refine Step.go ?_; intros) | refine iteB_t (by decide) ?_ | refine iteB_f (by decide) ?_ | (refine Duo.mk (by first | omega | exact rfl | decide) ?_; intros) | (refine Duo.mk (Clo.mk (by kernel_rfl)) ?_; intros)))
      rename_i r H3 S3
      clear S
      have S4 := S3.bring (c := sl DtI.cells 296 2 q i qc ((B.take i).map BkI.dt)) (by (repeat (first | exact Sel.here | apply Sel.there)))
      refine S4.slApp (ys := [x.dt]) (q := some ⟨r, 0, none⟩) (d := 1) ?_ rfl (by simp) (by simp [isCell]) rfl (by decide) (by omega) fun q4 c4 H8 S9 => ?_
      · simp only [List.flatMap_cons, List.flatMap_nil, List.append_nil]
        exact cellsAt_one (S3.at_ (List.mem_cons_self ..))
      clear S3 S4
      have et : (B.take i).map BkI.dt ++ [x.dt] = (B.take (i + 1)).map BkI.dt := by rw [List.take_add_one, hx, List.map_append]; rfl
      rw [et] at S9
      rw [wr64 (by omega) (by omega), show ((i : Nat) : Int) + 1 = ((i + 1 : Nat) : Int) by omega]
      refine ih (i + 1) q4 c4 H8 (by omega) (S9.to ?_)
      iterate 5 (apply Ent.pick; (focus (repeat (first | exact Sel.here | apply Sel.there))))
      exact Ent.drop .refl
  exact loop B.length 0 none 0 H1 (by omega) (S1.to (Ent.slNil .refl))
end
end Go.Proofs.YtkenjnllegbmjaaGreat

set_option linter.unusedVariables false
set_option linter.unusedSimpArgs false
set_option linter.unnecessarySimpa false
set_option maxRecDepth 100000
namespace Go.Proofs.YtkenjnllegbmjaaGreat
open Go Go.Den Go.Proofs
/-! A bucket is made. -/
section
variable {α : Type} {f : α → List Value} {E : TypeId} {z n c : Nat} {p : Option Addr} {xs : List α} {H : Heap} {l m : List HP}
theorem slCells {h : PH} (a : sl f E z p n c xs h) (hs : PH.sub h (PH.of H)) {i : Nat} (hi : i ≤ n) : cellsAt H (slP p i c z) ((xs.drop i).flatMap f) := by
  obtain ⟨a1, a2, a3, a4⟩ := a
  intro j v hj
  rcases a4 with ⟨rfl, rfl⟩ | ⟨r, pre, sp, rfl, hl, hb⟩
  · have : xs = [] := List.eq_nil_of_length_eq_zero (by omega)
    subst this
    simp at hj
  · by_cases hc : c = i
    · have : xs.drop i = [] := List.drop_eq_nil_of_le (by omega)
      rw [this] at hj
      simp at hj
    · refine ⟨_, by unfold slP; rw [if_neg hc]; rfl, ?_⟩
      show hcell H (((⟨r, pre.length, none⟩ : Addr).add (i * z)).add j) = some v
      rw [add_mk, add_mk]
      refine hcell_of (hs _ _ hb) ?_
      rw [← flat_drop a2, List.getElem?_drop] at hj
      rw [List.append_assoc, List.getElem?_append_right (by omega)]
      rw [show pre.length + i * z + j - pre.length = i * z + j by omega]
      rw [List.getElem?_append_left (lt_of hj)]
      exact hj
theorem slCells_of (S : Sat H l) (hm : sl f E z p n c xs ∈ l) {i : Nat} (hi : i ≤ n) : cellsAt H (slP p i c z) ((xs.drop i).flatMap f) := by
  obtain ⟨h, a, hs⟩ := S.mem hm
  exact slCells a hs hi
end

abbrev optC (o : Option Nat) : List Value := [.pointer (o.map fun b => ⟨b, 0, none⟩)]
theorem sl_map {α β : Type} {f : β → List Value} {h : α → β} {E : TypeId} {z n c : Nat} {p : Option Addr} {xs : List α} {l : List HP} : Ent (sl (fun x => f (h x)) E z p n c xs :: l) (sl f E z p n c (xs.map h) :: l) := by
  refine Ent.first fun k hk => ?_
  obtain ⟨a1, a2, a3, a4⟩ := hk
  refine ⟨by rw [List.length_map]; exact a1, ?_, a3, ?_⟩
  · intro r hr
    obtain ⟨x, hx, rfl⟩ := List.mem_map.1 hr
    exact a2 x hx
  · rw [List.flatMap_map]
    exact a4
theorem map_sl {α β : Type} {f : β → List Value} {h : α → β} {E : TypeId} {z n c : Nat} {p : Option Addr} {xs : List α} {l : List HP} : Ent (sl f E z p n c (xs.map h) :: l) (sl (fun x => f (h x)) E z p n c xs :: l) := by
  refine Ent.first fun k hk => ?_
  obtain ⟨a1, a2, a3, a4⟩ := hk
  refine ⟨by rw [List.length_map] at a1; exact a1, fun x hx => a2 _ (List.mem_map_of_mem hx), a3, ?_⟩
  rw [List.flatMap_map] at a4
  exact a4
section
variable {H H0 : Heap} {l : List HP} {g : PH} {tx : Nat}
def newBk (b : Nat) (s : ByteArray) (q : Option Addr) (c : Nat) : BkI := ⟨b, ⟨s, q, c⟩, none, 0, [], 0⟩
theorem newBk_G {b c : Nat} {s : ByteArray} {q : Option Addr} (h : BytsG g ⟨s, q, c⟩) : BkG g (newBk b s q c) := ⟨h, (fun _ _ => .inl rfl), (fun r hr => by cases hr), List.Pairwise.nil, Nat.le_refl _⟩
theorem create_ok {db : Nat} {dn : Bool} {A C : List BkI} {p : Option Addr} {c : Nat} {nm : Bs} (hg : ∀ x ∈ A ++ C, BkG g x) (hn : BytsG g nm) (hz : nm.s.size ≤ 1000) (hl : (A ++ C).length ≤ 900) (hlo : ∀ x ∈ A, ltS x.name.s nm.s = true) (hhi : ∀ x ∈ C, ltS nm.s x.name.s = true)
    (S : Sat H (txM tx db true dn (A ++ C) p c g l)) :
    CallsH Tryz.prog 261 ⟨[.pointer (some ⟨tx, 0, none⟩), nm.v]⟩ H (fun e H1 => ∃ (b : Nat) (q : Option Addr) (c1 : Nat) (g' : PH) (p' : Option Addr) (c' : Nat), e = .returned (.tuple ⟨[.pointer (some ⟨b, 0, none⟩), .nilIface]⟩) ∧ PH.sub g g' ∧ BytsG g' ⟨nm.s, q, c1⟩ ∧
      Sat H1 (txM tx db true dn (A ++ newBk b nm.s q c1 :: C) p' c' g' l)) := by
  refine F261.calls ?_
  unfold F261.go
  have hpl := tplace_ok (i := A.length) hg hn (by omega) (by simp) (fun j x hj hx => by
    rw [List.getElem?_append_left hj] at hx
    exact hlo x (List.mem_of_getElem? hx)) (fun x hx => by
    rw [List.getElem?_append_right (Nat.le_refl _), Nat.sub_self] at hx
    exact ltS_asymm (hhi x (List.mem_of_getElem? hx))) S
  have hf : hitB (A ++ C)[A.length]? nm.s = false := by
    rw [List.getElem?_append_right (Nat.le_refl _), Nat.sub_self]
    cases hx : C[0]? with
    | none => rfl
    | some x =>
      have h1 := hhi x (List.mem_of_getElem? hx)
      refine decide_eq_false fun e => ?_
      rw [e, ltS_irr] at h1
      cases h1
  rw [hf] at hpl
  have S0 : Sat H (pt tx (txO db true dn p (A ++ C).length c) :: sl ptrC 299 1 p (A ++ C).length c ((A ++ C).map BkI.b) :: bkts tx (A ++ C) :: has g :: l) := S
  refine gives_i S0 hpl fun H1 E1 S1 => ?_
  clear S0
  clear S
  (repeat (first | (refine Step.go ?_; intros) | refine iteB_t (by decide) ?_ | refine iteB_f (by decide) ?_ | (refine Duo.mk (by first | omega | exact rfl | decide) ?_; intros) | (refine Duo.mk (Clo.mk (by kernel_rfl)) ?_; intros)))
  rename_i r0 H2 S2
  clear S1
  have hL : (A ++ C).length = A.length + C.length := List.length_append
  generalize hN : (A ++ C).length = N at *
  refine cpA hn (by omega) (S2.to (m := pt r0 (.cells ⟨[]⟩ 5) :: has g :: pt tx (txO db true dn p N c) :: sl ptrC 299 1 p N c ((A ++ C).map BkI.b) :: bkts tx (A ++ C) :: l) (by
    iterate 5 (apply Ent.pick; (focus (repeat (first | exact Sel.here | apply Sel.there))))
    exact Ent.refl)) fun kq kc H3 g1 s1 hk1 S3 => ?_
  clear S2
  (repeat (first | (refine Step.go ?_; intros) | refine iteB_t (by decide) ?_ | refine iteB_f (by decide) ?_ | (refine Duo.mk (by first | omega | exact rfl | decide) ?_; intros) | (refine Duo.mk (Clo.mk (by kernel_rfl)) ?_; intros)))
  rename_i b H4 S4 r2 H5 S5
  clear S3 S4
  have S6 : Sat H5 (sl optC 299 1 p N c (((A ++ C).map BkI.b).map some) :: pt r2 (.cells ⟨[.pointer none]⟩ 299) :: pt b ((newBk b nm.s kq kc).obj tx) :: has g1 :: pt tx (txO db true dn p N c) :: bkts tx (A ++ C) :: l) := by
    have S7 : Sat H5 (sl ptrC 299 1 p N c ((A ++ C).map BkI.b) :: pt r2 (.cells ⟨[.pointer none]⟩ 299) :: pt b ((newBk b nm.s kq kc).obj tx) :: has g1 :: pt tx (txO db true dn p N c) :: bkts tx (A ++ C) :: l) := by
      refine S5.to ?_
      iterate 6 (apply Ent.pick; (focus (repeat (first | exact Sel.here | apply Sel.there))))
      exact Ent.refl
    exact S7.to (sl_map (f := optC) (h := some))
  clear S5
  refine S6.slApp (ys := [none]) (d := 1) ?_ rfl (by simp) (by simp [isCell]) rfl (by decide) (by omega) fun q4 c4 H8 S9 => ?_
  · simp only [List.flatMap_cons, List.flatMap_nil, List.append_nil]
    exact cellsAt_one (S6.at_ (List.mem_cons_of_mem _ (List.mem_cons_self ..)))
  clear S6
  have e1 : IntKind.wrap .i64 ((A.length : Int) + (1 : Int)) = ((A.length + 1 : Nat) : Int) := by rw [wr64 (by omega) (by omega)]; rfl
  rw [e1]
  (repeat (first | (refine Step.go ?_; intros) | refine iteB_t (by decide) ?_ | refine iteB_f (by decide) ?_ | (refine Duo.mk (by first | omega | exact rfl | decide) ?_; intros) | (refine Duo.mk (Clo.mk (by kernel_rfl)) ?_; intros)))
  rename_i HA SA
  clear S9
  rw [Int.toNat_natCast, Int.toNat_natCast]
  have hma : (((A ++ C).map BkI.b).map some ++ [none] : List (Option Nat)) = (A.map BkI.b).map some ++ ((C.map BkI.b).map some ++ [none]) := by simp
  rw [hma] at SA
  have hal : ((A.map BkI.b).map some).length = A.length := by simp
  have hcl : ((C.map BkI.b).map some).length = C.length := by simp
  generalize ha : (A.map BkI.b).map some = a' at SA hal
  generalize hc : (C.map BkI.b).map some = c' at SA hcl
  have hd : (a' ++ (c' ++ [none])).drop A.length = c' ++ [none] := by rw [← hal]; exact List.drop_left
  have hcells := slCells_of SA (List.mem_cons_self ..) (i := A.length) (by omega)
  rw [hd] at hcells
  refine SA.slCopy (i := A.length + 1) (d := N + 1 - A.length) (ys := c' ++ [none]) (by omega) hcells (by simp; omega) (fun _ _ => rfl) ?_ fun HB SB => ?_
  · intro w hw
    obtain ⟨y, _, hw⟩ := List.mem_flatMap.1 hw
    simp only [optC, List.mem_singleton] at hw
    subst hw; rfl
  clear SA
  have ht : Nat.min (N + 1 - A.length) (N + 1 - (A.length + 1)) = C.length := by
    show min _ _ = _
    omega
  rw [ht] at SB
  obtain ⟨x, t, hxt⟩ : ∃ x t, c' ++ [none] = x :: t := by cases c' with | nil => exact ⟨_, _, rfl⟩ | cons y c' => exact ⟨_, _, rfl⟩
  have hL1 : (a' ++ (c' ++ [none])).take (A.length + 1) ++ (c' ++ [none]).take C.length ++ (a' ++ (c' ++ [none])).drop (A.length + 1 + C.length) = a' ++ (x :: c') := by
    rw [List.drop_eq_nil_of_le (by simp; omega), List.append_nil]
    have h1 : (c' ++ [none]).take C.length = c' := by rw [← hcl]; exact List.take_left
    have h2 : (a' ++ (c' ++ [none])).take (A.length + 1) = a' ++ [x] := by
      rw [← hal, List.take_length_add_append, hxt]; rfl
    rw [h1, h2, List.append_assoc]
    rfl
  rw [hL1] at SB
  have hxa : (a' ++ (x :: c'))[A.length]? = some x := by rw [List.getElem?_append_right (by omega), hal, Nat.sub_self]; rfl
  have hI := HasI.nat hxa
  (repeat (first | (refine Step.go ?_; intros) | refine iteB_t (by decide) ?_ | refine iteB_f (by decide) ?_ | (refine Duo.mk (by first | omega | exact rfl | decide) ?_; intros) | (refine Duo.mk (Clo.mk (by kernel_rfl)) ?_; intros)))
  refine Sat.idx (f := optC) (E := 299) (z := 1) (xs := a' ++ (x :: c')) (n := N + 1) (c := c4) SB ⟨by omega, by omega, fun r0 o0 hr0 => ?_⟩
  subst hr0
  refine Sat.slSet (i := A.length) (j := 0) (x := x) (y := some b) SB hxa (by omega) rfl rfl fun HC SC => ?_
  clear SB
  have hset : (a' ++ (x :: c')).set A.length (some b) = ((A ++ newBk b nm.s kq kc :: C).map BkI.b).map some := by
    rw [List.set_append_right _ _ (by omega), hal, Nat.sub_self, ← ha, ← hc]
    simp [newBk]
  rw [hset] at SC
  have SD := SC.to (map_sl (f := optC) (h := some))
  have hN2 : N + 1 = (A ++ newBk b nm.s kq kc :: C).length := by simp; omega
  rw [hN2] at SD
  have SE : Sat HC (pt b ((newBk b nm.s kq kc).obj tx) :: bkts tx (A ++ C) :: sl ptrC 299 1 (some ⟨r0, o0, none⟩) (A ++ newBk b nm.s kq kc :: C).length c4 ((A ++ newBk b nm.s kq kc :: C).map BkI.b) :: pt tx (txO db true dn (some ⟨r0, o0, none⟩) (A ++ newBk b nm.s kq kc :: C).length c4) :: has g1 :: l) := by
    refine SD.to ?_
    iterate 5 (apply Ent.pick; (focus (repeat (first | exact Sel.here | apply Sel.there))))
    exact Ent.drop .refl
  have SF := SE.to (bkts_in (x := newBk b nm.s kq kc) (A := A) (B := C))
  have SG : Sat HC (txM tx db true dn (A ++ newBk b nm.s kq kc :: C) (some ⟨r0, o0, none⟩) c4 g1 l) := by
    refine SF.to ?_
    iterate 4 (apply Ent.pick; (focus (repeat (first | exact Sel.here | apply Sel.there))))
    exact Ent.refl
  clear SC SD SE SF
  refine F261.L0_step ?_
  unfold F261.L0n
  have hb : ((A ++ newBk b nm.s kq kc :: C).map BkI.b)[A.length]? = some b := by simp [newBk]
  have hJ := HasI.nat hb
  (repeat (first | (refine Step.go ?_; intros) | refine iteB_t (by decide) ?_ | refine iteB_f (by decide) ?_ | (refine Duo.mk (by first | omega | exact rfl | decide) ?_; intros) | (refine Duo.mk (Clo.mk (by kernel_rfl)) ?_; intros)))
  exact ⟨b, kq, kc, g1, some ⟨r0, o0, none⟩, c4, rfl, s1, hk1, SG⟩
end
end Go.Proofs.YtkenjnllegbmjaaGreat

set_option linter.unusedVariables false
set_option linter.unusedSimpArgs false
set_option linter.unnecessarySimpa false
set_option maxRecDepth 100000
namespace Go.Proofs.YtkenjnllegbmjaaGreat
open Go Go.Den Go.Proofs
/-! A buffer of rows. -/
abbrev bbO (q : Option Addr) (c u : Nat) : Obj := .cells ⟨[.slice q 512 c, .int .i64 (u : Int)]⟩ 274
abbrev bufS (q : Option Addr) (c : Nat) (Y : List KR) : HP := sl KR.cells 286 2 q 512 c Y
def kr0 : KR := ⟨⟨ByteArray.mk #[], none, 0⟩, ⟨ByteArray.mk #[], none, 0⟩⟩
theorem ent_swp {a b : HP} {l : List HP} : Ent (a :: b :: l) (b :: a :: l) := fun k x => SatP.perm (List.Perm.swap ..) x
theorem nilD_i {a : Addr} {k : Addr → Prop} (hk : k a) : nilD (some a) k := hk
section
variable {H H0 : Heap} {l : List HP} {g : PH}
theorem add_ok {bb c u : Nat} {q : Option Addr} {Y : List KR} {x : KR} (hu : u < 511) (S : Sat H (pt bb (bbO q c u) :: bufS q c Y :: l)) :
    CallsH Tryz.prog 135 ⟨[.pointer (some ⟨bb, 0, none⟩), x.k.v, x.v.v]⟩ H (fun e H1 => e = .returned (.tuple ⟨[]⟩) ∧ Sat H1 (pt bb (bbO q c (u + 1)) :: bufS q c (Y.set u x) :: l)) := by
  have hY := (Sat.slLen S (List.mem_cons_of_mem _ (List.mem_cons_self ..))).1
  obtain ⟨y, hy⟩ : ∃ y, Y[u]? = some y := get_of (by omega)
  have hI := HasI.nat hy
  refine F135.calls ?_
  unfold F135.go
  (repeat (first | (refine Step.go ?_; intros) | refine iteB_t (by decide) ?_ | refine iteB_f (by decide) ?_ | (refine Duo.mk (by first | omega | exact rfl | decide) ?_; intros) | (refine Duo.mk (Clo.mk (by kernel_rfl)) ?_; intros)))
  refine Sat.idx (f := KR.cells) (E := 286) (z := 2) (xs := Y) (n := 512) (c := c) S ⟨by omega, by omega, fun r0 o0 hr0 => ?_⟩
  subst hr0
  have S1 : Sat H (bufS (some ⟨r0, o0, none⟩) c Y :: pt bb (bbO (some ⟨r0, o0, none⟩) c u) :: l) := S.to ent_swp
  clear S
  rw [Int.toNat_natCast]
  refine Sat.slSet (i := u) (j := 0) (x := y) (y := ⟨x.k, y.v⟩) S1 hy (by omega) rfl rfl fun H2 S2 => ?_
  clear S1
  refine ⟨by omega, by omega, ?_⟩
  refine nilD_i ?_
  rw [add_add']
  have hy2 : (Y.set u ⟨x.k, y.v⟩)[u]? = some ⟨x.k, y.v⟩ := by rw [List.getElem?_set_self (by omega)]
  refine Sat.slSet (i := u) (j := 1) (x := ⟨x.k, y.v⟩) (y := x) S2 hy2 (by omega) rfl rfl fun H3 S3 => ?_
  clear S2
  rw [List.set_set] at S3
  have e1 : IntKind.wrap .i64 ((u : Int) + (1 : Int)) = ((u + 1 : Nat) : Int) := by rw [wr64 (by omega) (by omega)]; rfl
  (repeat (first | (refine Step.go ?_; intros) | refine iteB_t (by decide) ?_ | refine iteB_f (by decide) ?_ | (refine Duo.mk (by first | omega | exact rfl | decide) ?_; intros) | (refine Duo.mk (Clo.mk (by kernel_rfl)) ?_; intros)))
  rename_i H4 S4
  rw [e1] at S4
  clear S3
  (repeat (first | (refine Step.go ?_; intros) | refine iteB_t (by decide) ?_ | refine iteB_f (by decide) ?_ | (refine Duo.mk (by first | omega | exact rfl | decide) ?_; intros) | (refine Duo.mk (Clo.mk (by kernel_rfl)) ?_; intros)))
  refine iteB_f (by rw [beq_eq_false_iff_ne]; omega) ?_
  exact ⟨rfl, S4.to ent_swp⟩
end
end Go.Proofs.YtkenjnllegbmjaaGreat

set_option linter.unusedVariables false
set_option linter.unusedSimpArgs false
set_option linter.unnecessarySimpa false
set_option maxRecDepth 100000
namespace Go.Proofs.YtkenjnllegbmjaaGreat
open Go Go.Den Go.Proofs
/-! A buffer is made; one is put behind another. -/
section
variable {H H0 : Heap} {l : List HP} {g : PH}
theorem rep_flat (n : Nat) : repZ [Value.slice none 0 0, Value.slice none 0 0] n = (List.replicate n kr0).flatMap KR.cells := by
  have h := repZ_spec [Value.slice none 0 0, Value.slice none 0 0] n
  have e := range_rep [Value.slice none 0 0, Value.slice none 0 0] n
  have h2 : (⟨repZ [Value.slice none 0 0, Value.slice none 0 0] n⟩ : Array Value) = ⟨(List.replicate n [Value.slice none 0 0, Value.slice none 0 0]).flatten⟩ := h.trans e
  injection h2 with h2
  rw [h2, List.flatMap_def, List.map_replicate]
  rfl
theorem newBuf_ok (S : Sat H l) : CallsH Tryz.prog 270 ⟨[]⟩ H (fun e H1 => ∃ (bb : Nat) (q : Option Addr) (c : Nat), e = .returned (.pointer (some ⟨bb, 0, none⟩)) ∧ Sat H1 (pt bb (bbO q c 0) :: bufS q c (List.replicate 512 kr0) :: l)) := by
  refine F270.calls ?_
  unfold F270.go
  refine ⟨by decide, by decide, by decide, by decide, ?_⟩
  refine newX S fun r H1 E1 S1 => ?_
  clear S
  rw [rep_flat] at S1
  have S2 : Sat H1 (bufS (some ⟨r, 0, none⟩) 512 (List.replicate 512 kr0) :: l) := by
    refine S1.to ?_
    have := Ent.slClose (f := KR.cells) (E := 286) (z := 2) (n := 512) (c := 512) (xs := List.replicate 512 kr0) (r := r) (o := 0) (pre := []) (sp := []) (m := l) (by simp) (fun _ _ => rfl) (Nat.le_refl _) rfl (by simp)
    simpa using this
  clear S1
  show newD H1 _ _
  refine newX S2 fun bb H2 E2 S3 => ?_
  exact ⟨bb, some ⟨r, 0, none⟩, 512, rfl, S3⟩
/-- The rows of a buffer are added to another one, one by one. -/
theorem addAll_ok {a b c d u : Nat} {p q : Option Addr} {X Y : List KR} {R : Ending → Heap → Prop} (hu : u ≤ 500)
    (fin : ∀ H1, Sat H1 (pt a (bbO p c u) :: bufS p c (X.take 0 ++ Y.take u ++ X.drop u) :: pt b (bbO q d u) :: bufS q d Y :: l) → R (.returned (.tuple ⟨[]⟩)) H1) :
    ∀ (k i : Nat) (Z : List KR) (H : Heap), i + k = u → Z = Y.take i ++ X.drop i → Sat H (pt a (bbO p c i) :: bufS p c Z :: pt b (bbO q d u) :: bufS q d Y :: l) → F123.L0 (some ⟨a, 0, none⟩) (some ⟨b, 0, none⟩) (i : Int) H R := by
  intro k
  induction k with
  | zero =>
    intro i Z H hi hZ S
    obtain rfl : i = u := by omega
    refine F123.L0_step ?_
    unfold F123.L0n
    (repeat (first | (refine Step.go ?_; intros) | refine iteB_t (by decide) ?_ | refine iteB_f (by decide) ?_ | (refine Duo.mk (by first | omega | exact rfl | decide) ?_; intros) | (refine Duo.mk (Clo.mk (by kernel_rfl)) ?_; intros)))
    refine iteB_f (decide_eq_false (by omega)) ?_
    (repeat (first | (refine Step.go ?_; intros) | refine iteB_t (by decide) ?_ | refine iteB_f (by decide) ?_ | (refine Duo.mk (by first | omega | exact rfl | decide) ?_; intros) | (refine Duo.mk (Clo.mk (by kernel_rfl)) ?_; intros)))
    refine iteB_t (beq_self_eq_true _) ?_
    refine fin H ?_
    rw [hZ] at S
    exact S
  | succ k ih =>
    intro i Z H hi hZ S
    have hY := (Sat.slLen S (f := KR.cells) (E := 286) (z := 2) (p := q) (n := 512) (c := d) (xs := Y) (by simp)).1
    have hX := (Sat.slLen S (f := KR.cells) (E := 286) (z := 2) (p := p) (n := 512) (c := c) (xs := Z) (by simp)).1
    obtain ⟨y, hy⟩ : ∃ y, Y[i]? = some y := get_of (by omega)
    have hI := HasI.nat hy
    refine F123.L0_step ?_
    unfold F123.L0n
    (repeat (first | (refine Step.go ?_; intros) | refine iteB_t (by decide) ?_ | refine iteB_f (by decide) ?_ | (refine Duo.mk (by first | omega | exact rfl | decide) ?_; intros) | (refine Duo.mk (Clo.mk (by kernel_rfl)) ?_; intros)))
    refine iteB_t (decide_eq_true (by omega)) ?_
    (repeat (first | (refine Step.go ?_; intros) | refine iteB_t (by decide) ?_ | refine iteB_f (by decide) ?_ | (refine Duo.mk (by first | omega | exact rfl | decide) ?_; intros) | (refine Duo.mk (Clo.mk (by kernel_rfl)) ?_; intros)))
    refine Sat.idx (f := KR.cells) (E := 286) (z := 2) (p := q) (xs := Y) (n := 512) (c := d) S ⟨by omega, by omega, fun r0 o0 hr0 => ?_⟩
    subst hr0
    (repeat (first | (refine Step.go ?_; intros) | refine iteB_t (by decide) ?_ | refine iteB_f (by decide) ?_ | (refine Duo.mk (by first | omega | exact rfl | decide) ?_; intros) | (refine Duo.mk (Clo.mk (by kernel_rfl)) ?_; intros)))
    refine call_of (add_ok (x := y) (by omega) S) ?_
    rintro e H1 ⟨rfl, S1⟩
    clear S
    (repeat (first | (refine Step.go ?_; intros) | refine iteB_t (by decide) ?_ | refine iteB_f (by decide) ?_ | (refine Duo.mk (by first | omega | exact rfl | decide) ?_; intros) | (refine Duo.mk (Clo.mk (by kernel_rfl)) ?_; intros)))
    rw [wr64 (by omega) (by omega), show ((i : Nat) : Int) + 1 = ((i + 1 : Nat) : Int) by omega]
    refine ih (i + 1) (Z.set i y) H1 (by omega) ?_ S1
    rw [hZ] at hX ⊢
    rw [List.length_append, List.length_take, List.length_drop] at hX
    rw [List.set_append_right _ _ (by rw [List.length_take]; omega), List.length_take, Nat.min_eq_left (by omega), Nat.sub_self, List.take_add_one, hy, List.append_assoc]
    congr 1
    have hd : X.drop i = X[i]'(by omega) :: X.drop (i + 1) := List.drop_eq_getElem_cons (by omega)
    rw [hd]
    rfl
end
end Go.Proofs.YtkenjnllegbmjaaGreat

set_option linter.unusedVariables false
set_option linter.unusedSimpArgs false
set_option linter.unnecessarySimpa false
set_option maxRecDepth 100000
namespace Go.Proofs.YtkenjnllegbmjaaGreat
open Go Go.Den Go.Proofs
/-! Two buffers are merged (the first was empty); what a bucket's name tells. -/
section
variable {H H0 : Heap} {l : List HP} {g : PH}
theorem merge_ok {a b c d u : Nat} {p q : Option Addr} {X Y : List KR} (hu : u ≤ 500) (S : Sat H (pt a (bbO p c 0) :: bufS p c X :: pt b (bbO q d u) :: bufS q d Y :: l)) :
    CallsH Tryz.prog 123 ⟨[.pointer (some ⟨a, 0, none⟩), .pointer (some ⟨b, 0, none⟩)]⟩ H (fun e H1 => e = .returned (.tuple ⟨[]⟩) ∧ Sat H1 (pt a (bbO p c u) :: bufS p c (Y.take u ++ X.drop u) :: pt b (bbO q d u) :: bufS q d Y :: l)) := by
  refine F123.calls ?_
  unfold F123.go
  refine addAll_ok (X := X) (Y := Y) hu (fun H1 S1 => ⟨rfl, ?_⟩) u 0 X H (by omega) (by simp) S
  simpa using S1
theorem id_ok {n : Int} {s : ByteArray} {f : Bool} : CallsH Tryz.prog 286 ⟨[.agg ⟨[.int .i64 n, .string s, .bool f]⟩]⟩ H (Gives (.int .i64 n) H) := by
  refine F286.calls ?_
  unfold F286.go
  refine newX (Sat.start H) fun r H1 E1 S1 => ?_
  (repeat (first | (refine Step.go ?_; intros) | refine iteB_t (by decide) ?_ | refine iteB_f (by decide) ?_ | (refine Duo.mk (by first | omega | exact rfl | decide) ?_; intros) | (refine Duo.mk (Clo.mk (by kernel_rfl)) ?_; intros)))
  exact ⟨rfl, E1⟩
end
end Go.Proofs.YtkenjnllegbmjaaGreat

set_option linter.unusedVariables false
set_option linter.unusedSimpArgs false
set_option linter.unnecessarySimpa false
set_option maxRecDepth 100000
namespace Go.Proofs.YtkenjnllegbmjaaGreat
open Go Go.Den Go.Proofs
/-! What a bucket tells through its interface. -/
abbrev bkT (n : Int) (s : ByteArray) (f : Bool) : Value := .iface 258 (.agg ⟨[.int .i64 n, .string s, .bool f]⟩)
section
variable {H H0 : Heap} {l : List HP} {g : PH} {n : Int} {s : ByteArray} {f : Bool} {Q : List PanicEntry → Heap → Prop} {K : Value → Heap → Prop}
theorem idI (S : Sat H l) (k : ∀ H1, ExtH H H1 → Sat H1 l → K (.int .i64 n) H1) : callI Tryz.prog (bkT n s f) "ID" [] H Q K := by
  refine callI_val (f := 286) (by kernel_rfl) (by kernel_rfl) (by kernel_rfl) ?_
  exact gives_i S id_ok k
end
end Go.Proofs.YtkenjnllegbmjaaGreat

set_option linter.unusedVariables false
set_option linter.unusedSimpArgs false
set_option linter.unnecessarySimpa false
set_option maxRecDepth 100000
namespace Go.Proofs.YtkenjnllegbmjaaGreat
open Go Go.Den Go.Proofs
/-! A text's bytes are laid in memory, where they stay. -/
section
variable {H H0 : Heap} {l : List HP} {g : PH} {n : Int} {s : ByteArray} {f : Bool} {Q : List PanicEntry → Heap → Prop}
theorem sbG {K : Nat → Nat → Heap → Prop} (hs : s.size < 2 ^ 63) (S : Sat H (has g :: l)) (k : ∀ (r c : Nat) (H1 : Heap) (g' : PH), ExtH H H1 → PH.sub g g' → BytsG g' ⟨s, some ⟨r, 0, none⟩, c⟩ → Sat H1 (has g' :: l) → K r c H1) : sbD H 5 s K := by
  refine ⟨hs, fun c hc => ?_⟩
  have S1 := S.push (.cells ⟨bytesOf s.data.toList ++ List.replicate (c - s.size) (.int .u8 0)⟩ 5 (c, c + 1))
  obtain ⟨g1, h1, S4⟩ := has_of S1
  obtain ⟨g', s1, s2, S5⟩ := has_join S4
  refine k _ c _ g' (ExtH.push _ _) s2 ?_ S5
  intro H' hs'
  have SS : Sat H' [pt H.size (.cells ⟨bytesOf s.data.toList ++ List.replicate (c - s.size) (.int .u8 0)⟩ 5 (c, c + 1))] := ⟨h1.mono (s1.trans hs')⟩
  exact (Rd1.of_pt (List.mem_cons_self ..)).cells SS
theorem name_ok (hs : s.size < 2 ^ 63) (S : Sat H (has g :: l)) : CallsH Tryz.prog 288 ⟨[.agg ⟨[.int .i64 n, .string s, .bool f]⟩]⟩ H (fun e H1 => ∃ (r c : Nat) (g' : PH), e = .returned (.slice (some ⟨r, 0, none⟩) s.size c) ∧ ExtH H H1 ∧ PH.sub g g' ∧ BytsG g' ⟨s, some ⟨r, 0, none⟩, c⟩ ∧ Sat H1 (has g' :: l)) := by
  refine F288.calls ?_
  unfold F288.go
  refine newX S fun r0 H1 E1 S1 => ?_
  refine Step.go ?_
  refine sbG (g := g) hs (S1.to (Ent.drop .refl)) fun r c H2 g' E2 h1 h2 S2 => ?_
  exact ⟨r, c, g', rfl, E1.trans E2, h1, h2, S2⟩
theorem nameI {K : Value → Heap → Prop} (hs : s.size < 2 ^ 63) (S : Sat H (has g :: l)) (k : ∀ (r c : Nat) (H1 : Heap) (g' : PH), ExtH H H1 → PH.sub g g' → BytsG g' ⟨s, some ⟨r, 0, none⟩, c⟩ → Sat H1 (has g' :: l) → K (.slice (some ⟨r, 0, none⟩) s.size c) H1) : callI Tryz.prog (bkT n s f) "Name" [] H Q K := by
  refine callI_val (f := 288) (by kernel_rfl) (by kernel_rfl) (by kernel_rfl) ?_
  refine call_of (name_ok hs S) ?_
  rintro e H1 ⟨r, c, g', rfl, E1, h1, h2, S1⟩
  exact k r c H1 g' E1 h1 h2 S1
end
end Go.Proofs.YtkenjnllegbmjaaGreat

set_option linter.unusedVariables false
set_option linter.unusedSimpArgs false
set_option linter.unnecessarySimpa false
set_option maxRecDepth 100000
namespace Go.Proofs.YtkenjnllegbmjaaGreat
open Go Go.Den Go.Proofs
/-! A row is put into the write transaction. -/
abbrev btO (tx be : Nat) (pend : Nat) (m1 m2 : Option Nat) (z : Int) : Obj := .cells ⟨[.pointer (some ⟨tx, 0, none⟩), .pointer (some ⟨be, 0, none⟩), .int .i64 (pend : Int), .map m1, .map m2, .int .i64 z]⟩ 204
instance {k : FloatKind} {n : Nat} : IsC (.float k n) := ⟨rfl⟩
section
variable {H H0 : Heap} {l : List HP} {g : PH} {n : Int} {s : ByteArray} {f : Bool}
theorem tput_ok {bt tx db be pend c : Nat} {m1 m2 : Option Nat} {z : Int} {dn : Bool} {A C : List BkI} {x : BkI} {p : Option Addr} {k v : Bs} {sq : Bool}
    (hg : ∀ y ∈ A ++ x :: C, BkG g y) (hs : s.size < 2 ^ 63) (hl : (A ++ x :: C).length ≤ 1000) (hxn : x.name.s = s) (hlo : ∀ y ∈ A, ltS y.name.s s = true)
    (hk : BytsG g k) (hv : BytsG g v) (hn : x.xs.length ≤ 1000000) (hlt : ∀ y ∈ x.xs, ltS y.k.s k.s = true) (hk0 : k.s.size ≠ 0) (hks : k.s.size ≤ 140737488350000) (hvs : v.s.size ≤ 140737488350000) (hp : pend ≤ 1000000)
    (S : Sat H (pt bt (btO tx be pend m1 m2 z) :: txM tx db true dn (A ++ x :: C) p c g l)) :
    CallsH Tryz.prog 266 ⟨[.pointer (some ⟨bt, 0, none⟩), bkT n s f, k.v, v.v, .bool sq]⟩ H (fun e H1 => e = .returned (.tuple ⟨[]⟩) ∧ ∃ (g' : PH) (q' : Option Addr) (c' fl' : Nat) (r : KR), PH.sub g g' ∧ KrG g' r ∧ r.k.s = k.s ∧ r.v.s = v.s ∧ x.xs.length + 1 ≤ c' ∧ RowsG KR.cells 2 g' q' (x.xs ++ [r]) ∧
      Sat H1 (pt bt (btO tx be (pend + 1) m1 m2 z) :: txM tx db true dn (A ++ ⟨x.b, x.name, q', c', x.xs ++ [r], fl'⟩ :: C) p c g' l)) := by
  have hx : (A ++ x :: C)[A.length]? = some x := by simp
  have gx := hg x (by simp)
  refine F266.calls (bucketType := .mk 258 (.agg ⟨[.int .i64 n, .string s, .bool f]⟩)) ?_
  unfold F266.go
  refine Step.go ?_
  refine Step.go ?_
  refine nameI (g := g) hs (S.to (m := has g :: pt bt (btO tx be pend m1 m2 z) :: pt tx (txO db true dn p (A ++ x :: C).length c) :: sl ptrC 299 1 p (A ++ x :: C).length c ((A ++ x :: C).map BkI.b) :: bkts tx (A ++ x :: C) :: l) (by
    iterate 5 (apply Ent.pick; (focus (repeat (first | exact Sel.here | apply Sel.there))))
    exact Ent.refl)) fun r0 c0 H1 g1 E1 s1 hb1 S1 => ?_
  clear S
  refine Step.go ?_
  refine ⟨E1, ?_⟩
  have S2 : Sat H1 (txM tx db true dn (A ++ x :: C) p c g1 (pt bt (btO tx be pend m1 m2 z) :: l)) := S1.to (by
    iterate 5 (apply Ent.pick; (focus (repeat (first | exact Sel.here | apply Sel.there))))
    exact Ent.refl)
  clear S1
  refine gives_i S2 (bucket_ok (nm := ⟨s, some ⟨r0, 0, none⟩, c0⟩) (i := A.length) (x := x) (fun y hy => (hg y hy).mono s1) hb1 hl hx hxn (fun j y hj hy => hlo y (by
    rw [List.getElem?_append_left hj] at hy
    exact List.mem_of_getElem? hy)) S2) fun H2 E2 S3 => ?_
  clear S2
  refine Step.go ?_
  refine iteB_f rfl ?_
  refine F266.L0_step ?_
  unfold F266.L0n
  have S4 : Sat H2 (pt x.b (x.obj tx) :: has g1 :: pt tx (txO db true dn p (A ++ x :: C).length c) :: sl ptrC 299 1 p (A ++ x :: C).length c ((A ++ x :: C).map BkI.b) :: bkts tx (A ++ C) :: pt bt (btO tx be pend m1 m2 z) :: l) := by
    refine (S3.to (m := bkts tx (A ++ x :: C) :: has g1 :: pt tx (txO db true dn p (A ++ x :: C).length c) :: sl ptrC 299 1 p (A ++ x :: C).length c ((A ++ x :: C).map BkI.b) :: pt bt (btO tx be pend m1 m2 z) :: l) ?_).to ?_
    · iterate 5 (apply Ent.pick; (focus (repeat (first | exact Sel.here | apply Sel.there))))
      exact Ent.refl
    · refine Ent.trans bkts_out ?_
      iterate 6 (apply Ent.pick; (focus (repeat (first | exact Sel.here | apply Sel.there))))
      exact Ent.refl
  clear S3
  obtain ⟨xb, xn, xq, xc, xx, xf⟩ := x
  have S5 : Sat H2 (pt xb (bkO tx xn xq xx.length xc xf) :: has g1 :: pt tx (txO db true dn p (A ++ ⟨xb, xn, xq, xc, xx, xf⟩ :: C).length c) :: sl ptrC 299 1 p (A ++ ⟨xb, xn, xq, xc, xx, xf⟩ :: C).length c ((A ++ ⟨xb, xn, xq, xc, xx, xf⟩ :: C).map BkI.b) :: bkts tx (A ++ C) :: pt bt (btO tx be pend m1 m2 z) :: l) := S4
  clear S4
  dsimp only at hlt hn gx hxn ⊢
  have key : ∀ (fl1 : Nat) H3, Sat H3 (pt xb (bkO tx xn xq xx.length xc fl1) :: has g1 :: pt tx (txO db true dn p (A ++ ⟨xb, xn, xq, xc, xx, xf⟩ :: C).length c) :: sl ptrC 299 1 p (A ++ ⟨xb, xn, xq, xc, xx, xf⟩ :: C).length c ((A ++ ⟨xb, xn, xq, xc, xx, xf⟩ :: C).map BkI.b) :: bkts tx (A ++ C) :: pt bt (btO tx be pend m1 m2 z) :: l) → F266.L1 (some ⟨bt, 0, none⟩) k.p k.s.size k.c v.p v.s.size v.c (some ⟨xb, 0, none⟩) H3 (fun e H1 => e = .returned (.tuple ⟨[]⟩) ∧ ∃ (g' : PH) (q' : Option Addr) (c' fl' : Nat) (r : KR), PH.sub g g' ∧ KrG g' r ∧ r.k.s = k.s ∧ r.v.s = v.s ∧ xx.length + 1 ≤ c' ∧ RowsG KR.cells 2 g' q' (xx ++ [r]) ∧
      Sat H1 (pt bt (btO tx be (pend + 1) m1 m2 z) :: txM tx db true dn (A ++ ⟨xb, xn, q', c', xx ++ [r], fl'⟩ :: C) p c g' l)) := by
    intro fl1 H3 S6
    refine F266.L1_step ?_
    unfold F266.L1n
    refine call_of (put_ok (xs := xx) (name := xn) (q := xq) (c := xc) (gx.mono s1).rows (gx.mono s1).kr (hk.mono s1) (hv.mono s1) gx.srt hn gx.cap hlt hk0 hks hvs (S6.to (by
      iterate 6 (apply Ent.pick; (focus (repeat (first | exact Sel.here | apply Sel.there))))
      exact Ent.refl))) ?_
    rintro e H4 ⟨rfl, g', q', c', r, s2, h1, h2, h3, h4, h5, S7⟩
    clear S6
    (repeat (first | (refine Step.go ?_; intros) | refine iteB_t (by decide) ?_ | refine iteB_f (by decide) ?_ | (refine Duo.mk (by first | omega | exact rfl | decide) ?_; intros) | (refine Duo.mk (Clo.mk (by kernel_rfl)) ?_; intros)))
    refine F266.L2_step ?_
    unfold F266.L2n
    (repeat (first | (refine Step.go ?_; intros) | refine iteB_t (by decide) ?_ | refine iteB_f (by decide) ?_ | (refine Duo.mk (by first | omega | exact rfl | decide) ?_; intros) | (refine Duo.mk (Clo.mk (by kernel_rfl)) ?_; intros)))
    rename_i H5 S8
    clear S7
    rw [wr64 (by omega) (by omega), show ((pend : Nat) : Int) + 1 = ((pend + 1 : Nat) : Int) by omega] at S8
    refine ⟨rfl, g', q', c', fl1, r, s1.trans s2, h1, h2, h3, h4, h5, ?_⟩
    have e1 : ∀ y : BkI, y.b = xb → (A ++ y :: C).map BkI.b = (A ++ ⟨xb, xn, xq, xc, xx, xf⟩ :: C).map BkI.b := by intro y hy; simp [hy]
    have e2 : ∀ y : BkI, (A ++ y :: C).length = (A ++ ⟨xb, xn, xq, xc, xx, xf⟩ :: C).length := by intro y; simp
    unfold txM
    rw [e1 ⟨xb, xn, q', c', xx ++ [r], fl1⟩ rfl, e2 ⟨xb, xn, q', c', xx ++ [r], fl1⟩]
    have S9 := S8.to (m := pt xb (bkO tx xn q' (xx.length + 1) c' fl1) :: bkts tx (A ++ C) :: pt bt (btO tx be (pend + 1) m1 m2 z) :: pt tx (txO db true dn p (A ++ ⟨xb, xn, xq, xc, xx, xf⟩ :: C).length c) :: sl ptrC 299 1 p (A ++ ⟨xb, xn, xq, xc, xx, xf⟩ :: C).length c ((A ++ ⟨xb, xn, xq, xc, xx, xf⟩ :: C).map BkI.b) :: has g' :: l) (by
      iterate 6 (apply Ent.pick; (focus (repeat (first | exact Sel.here | apply Sel.there))))
      exact Ent.refl)
    have e3 : (xx ++ [r]).length = xx.length + 1 := by simp
    rw [← e3] at S9
    refine (S9.to (bkts_in (x := ⟨xb, xn, q', c', xx ++ [r], fl1⟩) (A := A) (B := C))).to ?_
    iterate 5 (apply Ent.pick; (focus (repeat (first | exact Sel.here | apply Sel.there))))
    exact Ent.refl
  cases sq with
  | false =>
    refine iteB_f rfl ?_
    exact key _ _ S5
  | true =>
    refine iteB_t rfl ?_
    (repeat (first | (refine Step.go ?_; intros) | refine iteB_t (by decide) ?_ | refine iteB_f (by decide) ?_ | (refine Duo.mk (by first | omega | exact rfl | decide) ?_; intros) | (refine Duo.mk (Clo.mk (by kernel_rfl)) ?_; intros)))
    rename_i H3 S6
    exact key _ _ S6
end
end Go.Proofs.YtkenjnllegbmjaaGreat

set_option linter.unusedVariables false
set_option linter.unusedSimpArgs false
set_option linter.unnecessarySimpa false
set_option maxRecDepth 100000
namespace Go.Proofs.YtkenjnllegbmjaaGreat
open Go Go.Den Go.Proofs
/-! The write buffer: its maps; a row is put into it. -/
abbrev pv (a : Nat) : Value := .pointer (some ⟨a, 0, none⟩)
section
variable {H H0 : Heap} {l : List HP} {g : PH} {n : Int} {s : ByteArray} {f : Bool}
theorem MI101 : MapT Tryz.prog 142 (Value.int .i64) pv (.pointer none) := ⟨256, 269, by kernel_rfl, KeyT.int (by kernel_rfl), by kernel_rfl⟩
theorem MI107 : MapT Tryz.prog 148 (Value.int .i64) pv (.pointer none) := ⟨256, 299, by kernel_rfl, KeyT.int (by kernel_rfl), by kernel_rfl⟩
theorem MI134 : MapT Tryz.prog 200 (Value.int .i64) Value.bool (.bool false) := ⟨256, 4, by kernel_rfl, KeyT.int (by kernel_rfl), by kernel_rfl⟩
end
end Go.Proofs.YtkenjnllegbmjaaGreat

set_option linter.unusedVariables false
set_option linter.unusedSimpArgs false
set_option linter.unnecessarySimpa false
set_option maxRecDepth 100000
namespace Go.Proofs.YtkenjnllegbmjaaGreat
open Go Go.Den Go.Proofs
/-! A row is put into the write buffer. -/
section
variable {H H0 : Heap} {l : List HP} {g : PH} {n : Int} {s : ByteArray} {f : Bool}
theorem bput_new {bt tx be pend m1 : Nat} {m2 : Option Nat} {z : Int} {M : List (Int × Nat)} {x : KR} (hm : mget M n = none)
    (S : Sat H (mp (Value.int .i64) pv m1 M :: pt bt (btO tx be pend (some m1) m2 z) :: l)) :
    CallsH Tryz.prog 267 ⟨[.pointer (some ⟨bt, 3, none⟩), bkT n s f, x.k.v, x.v.v]⟩ H (fun e H1 => e = .returned (.tuple ⟨[]⟩) ∧ ∃ (bb : Nat) (q : Option Addr) (c : Nat), Sat H1 (pt bb (bbO q c 1) :: bufS q c ((List.replicate 512 kr0).set 0 x) :: mp (Value.int .i64) pv m1 (mset M n bb) :: pt bt (btO tx be pend (some m1) m2 z) :: l)) := by
  refine F267.calls (bucket := .mk 258 (.agg ⟨[.int .i64 n, .string s, .bool f]⟩)) ?_
  unfold F267.go
  refine Step.go ?_
  refine Step.go ?_
  refine idI S fun H1 E1 S1 => ?_
  clear S
  refine Step.go ?_
  refine ⟨E1, ?_⟩
  refine Sat.lookup S1 (List.mem_cons_self ..) MI101 n (fun v hv => by rw [hm] at hv; cases hv) (fun _ => ?_)
  show tTup (.tuple ⟨[.pointer none, .bool false]⟩) _
  (repeat (first | (refine Step.go ?_; intros) | refine iteB_t (by decide) ?_ | refine iteB_f (by decide) ?_ | (refine Duo.mk (by first | omega | exact rfl | decide) ?_; intros) | (refine Duo.mk (Clo.mk (by kernel_rfl)) ?_; intros)))
  refine call_of (newBuf_ok S1) ?_
  rintro e H2 ⟨bb, q, c, rfl, S2⟩
  clear S1
  refine Step.go ?_
  have S3 : Sat H2 (mp (Value.int .i64) pv m1 M :: pt bt (btO tx be pend (some m1) m2 z) :: pt bb (bbO q c 0) :: bufS q c (List.replicate 512 kr0) :: l) := S2.to (by
    iterate 4 (apply Ent.pick; (focus (repeat (first | exact Sel.here | apply Sel.there))))
    exact Ent.refl)
  clear S2
  repeat (refine Step.go ?_)
  refine idI S3 fun H3 E3 S4 => ?_
  clear S3
  refine Step.go ?_
  refine ⟨E3, ?_⟩
  refine S4.mpSet MI101 n bb fun H4 S5 => ?_
  clear S4
  refine call_of (add_ok (u := 0) (x := x) (by omega) (S5.to (by
    iterate 4 (apply Ent.pick; (focus (repeat (first | exact Sel.here | apply Sel.there))))
    exact Ent.refl))) ?_
  rintro e H5 ⟨rfl, S6⟩
  clear S5
  (repeat (first | (refine Step.go ?_; intros) | refine iteB_t (by decide) ?_ | refine iteB_f (by decide) ?_ | (refine Duo.mk (by first | omega | exact rfl | decide) ?_; intros) | (refine Duo.mk (Clo.mk (by kernel_rfl)) ?_; intros)))
  refine ⟨rfl, bb, q, c, S6.to ?_⟩
  iterate 4 (apply Ent.pick; (focus (repeat (first | exact Sel.here | apply Sel.there))))
  exact Ent.refl
end
end Go.Proofs.YtkenjnllegbmjaaGreat
