/- What functions of this seat do, each proved by a walk; no condition. -/
import Derived.Test.YtobolifgehagfaaDenZB
set_option linter.unusedVariables false
set_option linter.unusedSimpArgs false
set_option linter.unnecessarySimpa false
namespace Go.Proofs.Ytobolifgehagfaa
open Go Go.Den Go.Proofs
theorem wr {i : Int} (h0 : -9223372036854775808 ≤ i) (h1 : i < 9223372036854775808) : IntKind.wrap .i64 i = i := wr64 h0 h1
/-! Ends of intervals. -/
theorem bl_cmp : ∀ (a b : List UInt8), (Lib.compareBytes a b < 0 ↔ Op.bytesLess a b = true) ∧ (Lib.compareBytes a b = 0 ↔ a = b)
  | [], [] => by simp [Lib.compareBytes, Op.bytesLess]
  | [], _ :: _ => by simp [Lib.compareBytes, Op.bytesLess]
  | _ :: _, [] => by simp [Lib.compareBytes, Op.bytesLess]
  | x :: a, y :: b => by
    obtain ⟨h1, h2⟩ := bl_cmp a b
    unfold Lib.compareBytes Op.bytesLess
    rcases Nat.lt_trichotomy x.toNat y.toNat with h | h | h
    · have hlt : x < y := h
      rw [if_pos hlt]
      have hne : x ≠ y := by intro e; subst e; omega
      simp [hlt, hne]
    · have he : x = y := UInt8.toNat.inj h
      subst he
      simp only [UInt8.lt_irrefl, if_false, decide_false, Bool.false_or, BEq.rfl, Bool.true_and, List.cons.injEq, true_and]
      exact ⟨h1, h2⟩
    · have hgt : y < x := h
      have hn : ¬ x < y := by intro hh; have : x.toNat < y.toNat := hh; omega
      have hne : x ≠ y := by intro e; subst e; omega
      rw [if_neg hn, if_pos hgt]
      simp [hn, hne]
theorem bl_flip : ∀ (a b : List UInt8), Op.bytesLess b a = (!Op.bytesLess a b && !(a == b))
  | [], [] => by simp [Op.bytesLess]
  | [], _ :: _ => by simp [Op.bytesLess]
  | _ :: _, [] => by simp [Op.bytesLess]
  | x :: a, y :: b => by
    have ih := bl_flip a b
    unfold Op.bytesLess
    rcases Nat.lt_trichotomy x.toNat y.toNat with h | h | h
    · have hlt : x < y := h
      have hn : ¬ y < x := by intro hh; have : y.toNat < x.toNat := hh; omega
      have hne : ¬ x = y := by intro e; subst e; omega
      have hne' : ¬ y = x := fun e => hne e.symm
      simp [hlt, hn, hne, hne']
    · have he : x = y := UInt8.toNat.inj h
      subst he
      simp [UInt8.lt_irrefl, ih]
    · have hgt : y < x := h
      have hn : ¬ x < y := by intro hh; have : x.toNat < y.toNat := hh; omega
      have hne : ¬ x = y := by intro e; subst e; omega
      simp [hn, hgt, hne]
theorem ltS_cmp (a b : ByteArray) : decide (Lib.compareBytes a.data.toList b.data.toList < 0) = ltS a b := by
  unfold ltS
  rw [ByteArray.toList_eq, ByteArray.toList_eq, Bool.eq_iff_iff, decide_eq_true_iff]
  exact (bl_cmp _ _).1
theorem ltS_flip (a b : ByteArray) : (!(ltS a b || eqS a b)) = ltS b a := by
  unfold ltS eqS
  rw [bl_flip a.toList b.toList, Bool.not_or]
theorem ltS_asymm {a b : ByteArray} (h : ltS a b = true) : ltS b a = false := by
  have := ltS_flip b a
  rw [h] at this
  cases hb : ltS b a with
  | false => rfl
  | true => rw [hb] at this; simp at this

theorem bl_trans : ∀ (a b c : List UInt8), Op.bytesLess a b = true → Op.bytesLess c b = false → Op.bytesLess a c = true
  | [], [], _, h, _ => by simp [Op.bytesLess] at h
  | [], _ :: _, [], _, h => by simp [Op.bytesLess] at h
  | [], _ :: _, _ :: _, _, _ => by simp [Op.bytesLess]
  | _ :: _, [], _, h, _ => by simp [Op.bytesLess] at h
  | _ :: _, _ :: _, [], _, h => by simp [Op.bytesLess] at h
  | x :: a, y :: b, z :: c, h1, h2 => by
    unfold Op.bytesLess at h1 h2 ⊢
    simp only [Bool.or_eq_true, Bool.and_eq_true, decide_eq_true_eq, beq_iff_eq, Bool.or_eq_false_iff, decide_eq_false_iff_not, Bool.and_eq_false_iff, beq_eq_false_iff_ne] at h1 h2 ⊢
    obtain ⟨h2, h3⟩ := h2
    have l : ∀ u v : UInt8, u < v ↔ u.toNat < v.toNat := fun u v => Iff.rfl
    rw [l] at h1 h2 ⊢
    rcases h1 with h1 | ⟨rfl, h1⟩
    · left; omega
    · by_cases hz : x.toNat < z.toNat
      · exact .inl hz
      · have e : x = z := UInt8.toNat.inj (by omega)
        subst e
        right
        refine ⟨rfl, bl_trans a b c h1 ?_⟩
        rcases h3 with h3 | h3
        · exact absurd rfl h3
        · cases hb : Op.bytesLess c b with
          | false => rfl
          | true => rw [hb] at h3; simp at h3
theorem ltS_trans {a b c : ByteArray} (h1 : ltS a b = true) (h2 : ltS c b = false) : ltS a c = true := bl_trans _ _ _ h1 h2
theorem eqS_nil (a : ByteArray) : eqS a (ByteArray.mk #[]) = decide (a.size = 0) := by
  unfold eqS
  rw [ByteArray.toList_eq, ByteArray.toList_eq, Bool.eq_iff_iff, decide_eq_true_iff, beq_iff_eq]
  obtain ⟨⟨l⟩⟩ := a
  show l = [] ↔ l.length = 0
  rw [List.length_eq_zero_iff]
theorem ltS_nil (a : ByteArray) (h : a.size = 0) (b : ByteArray) : ltS b a = false := by
  unfold ltS
  rw [ByteArray.toList_eq, ByteArray.toList_eq]
  obtain ⟨⟨l⟩⟩ := a
  have : l = [] := List.length_eq_zero_iff.1 h
  subst this
  show Op.bytesLess b.data.toList [] = false
  cases b.data.toList <;> rfl
abbrev EN := ByteArray × Int
/-- One end stands ahead of another one, by an order. -/
def ltE (o : Int) (x y : EN) : Bool := if o = 3 then decide (x.2 < y.2) else if o ≠ 0 ∧ ¬ (x.1.size = 0 ↔ y.1.size = 0) then decide (y.1.size = 0) else ltS x.1 y.1
def cmpE (o : Int) (x y : EN) : Int := if ltE o x y then -1 else if ltE o y x then 1 else 0
theorem ltE_asymm {o : Int} {x y : EN} (h : ltE o x y = true) : ltE o y x = false := by
  unfold ltE at h ⊢
  by_cases h3 : o = 3
  · rw [if_pos h3] at h ⊢
    have := of_decide_eq_true h
    exact decide_eq_false (by omega)
  · rw [if_neg h3] at h ⊢
    by_cases hm : o ≠ 0 ∧ ¬ (x.1.size = 0 ↔ y.1.size = 0)
    · rw [if_pos hm] at h
      rw [if_pos ⟨hm.1, fun e => hm.2 e.symm⟩]
      have h := of_decide_eq_true h
      refine decide_eq_false (fun e => hm.2 ⟨fun _ => h, fun _ => e⟩)
    · rw [if_neg hm] at h
      rw [if_neg (fun e => hm ⟨e.1, fun e2 => e.2 e2.symm⟩)]
      exact ltS_asymm h
theorem ltE_trans {o : Int} {x y z : EN} (h1 : ltE o x y = true) (h2 : ltE o z y = false) : ltE o x z = true := by
  unfold ltE at h1 h2 ⊢
  by_cases h3 : o = 3
  · rw [if_pos h3] at h1 h2 ⊢
    have := of_decide_eq_true h1
    have := of_decide_eq_false h2
    exact decide_eq_true (by omega)
  · rw [if_neg h3] at h1 h2 ⊢
    by_cases h0 : o = 0
    · have e : ∀ u v : EN, ¬ (o ≠ 0 ∧ ¬ (u.1.size = 0 ↔ v.1.size = 0)) := fun u v h => h.1 h0
      rw [if_neg (e _ _)] at h1 h2 ⊢
      exact ltS_trans h1 h2
    · have e : ∀ u v : EN, (o ≠ 0 ∧ ¬ (u.1.size = 0 ↔ v.1.size = 0)) ↔ ¬ (u.1.size = 0 ↔ v.1.size = 0) := fun u v => ⟨fun h => h.2, fun h => ⟨h0, h⟩⟩
      simp only [e] at h1 h2 ⊢
      by_cases hx : x.1.size = 0
      · by_cases hy : y.1.size = 0
        · rw [if_neg (by simp [hx, hy])] at h1
          rw [ltS_nil _ hy] at h1; cases h1
        · rw [if_pos (by simp [hx, hy])] at h1
          exact absurd (of_decide_eq_true h1) hy
      · by_cases hz : z.1.size = 0
        · rw [if_pos (by simp [hx, hz])]
          exact decide_eq_true hz
        · rw [if_neg (by simp [hx, hz])]
          by_cases hy : y.1.size = 0
          · rw [if_pos (by simp [hz, hy])] at h2
            exact absurd hy (of_decide_eq_false h2)
          · rw [if_neg (by simp [hx, hy])] at h1
            rw [if_neg (by simp [hz, hy])] at h2
            exact ltS_trans h1 h2
/-! Spans. -/
structure SP where
  b : ByteArray
  e : ByteArray
  p : Bool
  f : Int
  t : Int
abbrev SP.cells (s : SP) : List Value := [.string s.b, .string s.e, .bool s.p, .int .i64 s.f, .int .i64 s.t]
def SP.end_ (s : SP) : ByteArray := if s.p then s.b ++ ⟨#[0]⟩ else s.e
def SP.B (s : SP) : EN := (s.b, s.f)
def SP.E (s : SP) : EN := (s.end_, s.t)
def plainS (s : SP) : SP := ⟨s.b, s.end_, false, s.f, s.t⟩
def Sz (s : SP) : Prop := s.b.size ≤ 140737488351232 ∧ s.e.size ≤ 140737488351232
theorem cat_size (a : ByteArray) : (a ++ (⟨#[0]⟩ : ByteArray)).size = a.size + 1 := by rw [ByteArray.size_append]; rfl
/-! What meets, and what stands ahead. -/
def meetS (o : Int) (s t : SP) : Bool := ltE o s.B t.E && ltE o t.B s.E
def aheadS (o : Int) (s t : SP) : Bool := ltE o s.B t.B || (!ltE o t.B s.B && ltE o s.E t.E)
theorem cmpE_neg {o : Int} {x y : EN} : decide (cmpE o x y < 0) = ltE o x y := by
  unfold cmpE
  cases h : ltE o x y with
  | true => simp
  | false => simp only [Bool.false_eq_true, if_false]; split <;> simp
theorem cmpE_zero {o : Int} {x y : EN} : (cmpE o x y == 0) = (!ltE o x y && !ltE o y x) := by
  unfold cmpE
  cases h : ltE o x y with
  | true => simp
  | false => simp only [Bool.false_eq_true, if_false]; cases h2 : ltE o y x <;> simp
/-! The law itself. -/
theorem spans_law {o : Int} {s t : SP} (hs : ltE o s.B s.E = true) (ht : ltE o t.B t.E = true) :
    (if cmpE o s.B t.B < 0 ∧ cmpE o s.E t.B ≤ 0 then (-1 : Int) else if 0 ≤ cmpE o s.B t.E then 1 else 0) = (if meetS o s t then 0 else if aheadS o s t then -1 else 1) := by
  have c1 : cmpE o s.B t.B < 0 ↔ ltE o s.B t.B = true := by rw [← cmpE_neg, decide_eq_true_iff]
  have c2 : cmpE o s.E t.B ≤ 0 ↔ ltE o t.B s.E = false := by
    unfold cmpE
    constructor
    · intro h
      cases h2 : ltE o s.E t.B with
      | true => exact ltE_asymm h2
      | false =>
        rw [h2] at h
        cases h3 : ltE o t.B s.E with
        | true => rw [h3] at h; simp at h
        | false => rfl
    · intro h
      rw [h]
      split <;> simp
  have c3 : 0 ≤ cmpE o s.B t.E ↔ ltE o s.B t.E = false := by
    have : cmpE o s.B t.E < 0 ↔ ltE o s.B t.E = true := by rw [← cmpE_neg, decide_eq_true_iff]
    constructor
    · intro h
      cases h2 : ltE o s.B t.E with
      | true => have := this.2 h2; omega
      | false => rfl
    · intro h
      have h3 : ¬ cmpE o s.B t.E < 0 := by rw [this, h]; simp
      omega
  simp only [c1, c2, c3]
  unfold meetS aheadS
  cases h1 : ltE o t.B s.E with
  | false =>
    have h2 : ltE o s.B t.B = true := ltE_trans hs h1
    simp [h2]
  | true =>
    cases h2 : ltE o s.B t.E with
    | true => simp
    | false =>
      have h3 : ltE o t.B s.B = true := ltE_trans ht h2
      have h4 := ltE_asymm h3
      simp [h3, h4]
end Go.Proofs.Ytobolifgehagfaa

set_option linter.unusedVariables false
set_option linter.unusedSimpArgs false
set_option linter.unnecessarySimpa false
namespace Go.Proofs.Ytobolifgehagfaa
open Go Go.Den Go.Proofs
/-! Trees of intervals, without memory. -/
/-- An interval with its value: its block, its ends as they stand there, and what they say. -/
structure It where
  r : Nat
  i : IV
  j : IV
  v : IV
  B : EN
  E : EN
inductive Tr
  | nil
  | node (it : It) (c : Bool) (l r : Tr)
def Tr.ref (sr : Nat) : Tr → Nat
  | .nil => sr
  | .node it _ _ _ => it.r
def Tr.inL : Tr → List It
  | .nil => []
  | .node it _ l r => l.inL ++ it :: r.inL
def Tr.red : Tr → Bool
  | .nil => false
  | .node _ c _ _ => c
def Tr.setC (b : Bool) : Tr → Tr
  | .nil => .nil
  | .node it _ l r => .node it b l r
/-- A node above, with its other child. -/
structure Fr where
  it : It
  c : Bool
  left : Bool
  sib : Tr
def par (sr : Nat) : List Fr → Nat
  | [] => sr
  | f :: _ => f.it.r
def Fr.fill (f : Fr) (t : Tr) : Tr := if f.left then .node f.it f.c t f.sib else .node f.it f.c f.sib t
def plug : List Fr → Tr → Tr
  | [], t => t
  | f :: k, t => plug k (f.fill t)
def preC : List Fr → List It
  | [] => []
  | f :: k => if f.left then preC k else preC k ++ (f.sib.inL ++ [f.it])
def postC : List Fr → List It
  | [] => []
  | f :: k => if f.left then f.it :: (f.sib.inL ++ postC k) else postC k
theorem inL_fill (f : Fr) (t : Tr) : (f.fill t).inL = if f.left then t.inL ++ f.it :: f.sib.inL else f.sib.inL ++ f.it :: t.inL := by
  unfold Fr.fill
  split <;> rfl
theorem inL_plug : ∀ (k : List Fr) (t : Tr), (plug k t).inL = preC k ++ (t.inL ++ postC k)
  | [], t => by simp [plug, preC, postC]
  | f :: k, t => by
    rw [plug, inL_plug k, inL_fill, preC, postC]
    split <;> simp
/-! The greatest end. -/
def eqE (o : Int) (a b : EN) : Prop := ltE o a b = false ∧ ltE o b a = false
theorem ltE_irrefl (o : Int) (a : EN) : ltE o a a = false := by
  cases h : ltE o a a with
  | false => rfl
  | true => have := ltE_asymm h; rw [h] at this; cases this
theorem eqE.refl (o : Int) (a : EN) : eqE o a a := ⟨ltE_irrefl o a, ltE_irrefl o a⟩
theorem eqE.symm {o : Int} {a b : EN} (h : eqE o a b) : eqE o b a := ⟨h.2, h.1⟩
/-- Not greater: goes on. -/
theorem nlt_trans {o : Int} {a b c : EN} (h1 : ltE o b a = false) (h2 : ltE o c b = false) : ltE o c a = false := by
  cases h : ltE o c a with
  | false => rfl
  | true => have := ltE_trans h h1; rw [h2] at this; cases this
theorem eqE.trans {o : Int} {a b c : EN} (h1 : eqE o a b) (h2 : eqE o b c) : eqE o a c := ⟨nlt_trans h2.1 h1.1, nlt_trans h1.2 h2.2⟩
theorem eqE.lt_l {o : Int} {a b c : EN} (h : eqE o a b) : ltE o a c = ltE o b c := by
  rw [Bool.eq_iff_iff]
  constructor
  · intro h1
    cases h2 : ltE o b c with
    | true => rfl
    | false => have := nlt_trans h2 h.1; rw [h1] at this; cases this
  · intro h1
    cases h2 : ltE o a c with
    | true => rfl
    | false => have := nlt_trans h2 h.2; rw [h1] at this; cases this
theorem eqE.lt_r {o : Int} {a b c : EN} (h : eqE o a b) : ltE o c a = ltE o c b := by
  rw [Bool.eq_iff_iff]
  constructor
  · intro h1
    cases h2 : ltE o c b with
    | true => rfl
    | false => have := nlt_trans h.2 h2; rw [h1] at this; cases this
  · intro h1
    cases h2 : ltE o c a with
    | true => rfl
    | false => have := nlt_trans h.1 h2; rw [h1] at this; cases this
theorem cmpE_eqE {o : Int} {x y : EN} : (cmpE o x y == 0) = true ↔ eqE o x y := by
  rw [cmpE_zero]
  unfold eqE
  cases ltE o x y <;> cases ltE o y x <;> simp
theorem cmpE_pos {o : Int} {x y : EN} : decide (cmpE o x y > 0) = ltE o y x := by
  unfold cmpE
  cases h : ltE o x y with
  | true => simp [ltE_asymm h]
  | false => simp only [Bool.false_eq_true, if_false]; cases h2 : ltE o y x <;> simp
def mx2 (o : Int) (e : EN) : Option EN → EN
  | some a => if ltE o e a then a else e
  | none => e
def mx3 (o : Int) (e : EN) (a b : Option EN) : EN := mx2 o (mx2 o e a) b
def eqO (o : Int) : Option EN → Option EN → Prop
  | none, none => True
  | some a, some b => eqE o a b
  | _, _ => False
theorem eqO.refl (o : Int) : ∀ a, eqO o a a
  | none => trivial
  | some a => eqE.refl o a
theorem mx2_congr {o : Int} {e e' : EN} {a a' : Option EN} (h : eqE o e e') (h2 : eqO o a a') : eqE o (mx2 o e a) (mx2 o e' a') := by
  cases a with
  | none => cases a' with
    | none => exact h
    | some _ => exact h2.elim
  | some a => cases a' with
    | none => exact h2.elim
    | some a' =>
      have h2 : eqE o a a' := h2
      unfold mx2
      dsimp only
      rw [h.lt_l, h2.lt_r]
      split
      · exact h2
      · exact h
theorem mx3_congr {o : Int} {e e' : EN} {a a' b b' : Option EN} (h : eqE o e e') (h2 : eqO o a a') (h3 : eqO o b b') : eqE o (mx3 o e a b) (mx3 o e' a' b') := mx2_congr (mx2_congr h h2) h3
def Tr.mx (o : Int) : Tr → Option EN
  | .nil => none
  | .node it _ l r => some (mx3 o it.E (l.mx o) (r.mx o))
def Fr.mx (o : Int) (f : Fr) (h : Option EN) : EN := if f.left then mx3 o f.it.E h (f.sib.mx o) else mx3 o f.it.E (f.sib.mx o) h
theorem Fr.mx_congr {o : Int} {f : Fr} {h h' : Option EN} (e : eqO o h h') : eqE o (f.mx o h) (f.mx o h') := by
  unfold Fr.mx
  split
  · exact mx3_congr (.refl ..) e (.refl ..)
  · exact mx3_congr (.refl ..) (.refl ..) e
theorem setC_inL {b : Bool} {t : Tr} : (t.setC b).inL = t.inL := by cases t <;> rfl
theorem setC_ref {b : Bool} {t : Tr} {sr : Nat} : (t.setC b).ref sr = t.ref sr := by cases t <;> rfl
/-! Red and black. -/
def BH : Tr → Nat → Prop
  | .nil, n => n = 0
  | .node _ c l r, n => ∃ m, BH l m ∧ BH r m ∧ n = m + (if c then 0 else 1)
def NR : Tr → Prop
  | .nil => True
  | .node _ c l r => NR l ∧ NR r ∧ (c = true → l.red = false ∧ r.red = false)
def redP : List Fr → Bool
  | [] => false
  | f :: _ => f.c
def BC : List Fr → Nat → Prop
  | [], _ => True
  | f :: k, n => BH f.sib n ∧ BC k (n + if f.c then 0 else 1)
def NRC : List Fr → Prop
  | [] => True
  | f :: k => NR f.sib ∧ (f.c = true → f.sib.red = false ∧ redP k = false) ∧ NRC k
def rootB : List Fr → Prop
  | [] => True
  | [f] => f.c = false
  | _ :: k => rootB k
theorem bh_fill {f : Fr} {t : Tr} {n : Nat} (h1 : BH t n) (h2 : BH f.sib n) : BH (f.fill t) (n + if f.c then 0 else 1) := by
  unfold Fr.fill
  split
  · exact ⟨n, h1, h2, rfl⟩
  · exact ⟨n, h2, h1, rfl⟩
theorem bh_plug : ∀ (k : List Fr) (t : Tr) (n : Nat), BH t n → BC k n → ∃ m, BH (plug k t) m
  | [], t, n, h, _ => ⟨n, h⟩
  | f :: k, t, n, h, ⟨h1, h2⟩ => bh_plug k (f.fill t) _ (bh_fill h h1) h2
theorem nr_fill {f : Fr} {t : Tr} (h1 : NR t) (h2 : NR f.sib) (h3 : f.c = true → f.sib.red = false) (h4 : f.c = true → t.red = false) : NR (f.fill t) := by
  unfold Fr.fill
  split
  · exact ⟨h1, h2, fun h => ⟨h4 h, h3 h⟩⟩
  · exact ⟨h2, h1, fun h => ⟨h3 h, h4 h⟩⟩
theorem red_fill {f : Fr} {t : Tr} : (f.fill t).red = f.c := by
  unfold Fr.fill
  split <;> rfl
theorem nr_plug : ∀ (k : List Fr) (t : Tr), NR t → NRC k → (t.red = true → redP k = false) → NR (plug k t)
  | [], t, h, _, _ => h
  | f :: k, t, h, ⟨h1, h2, h3⟩, h4 => by
    refine nr_plug k (f.fill t) (nr_fill h h1 (fun e => (h2 e).1) (fun e => ?_)) h3 (fun e => ?_)
    · cases ht : t.red with
      | false => rfl
      | true => have h9 : f.c = false := h4 ht; rw [e] at h9; cases h9
    · rw [red_fill] at e; exact (h2 e).2
theorem bh_setC {b : Bool} {t : Tr} {n : Nat} (h : BH t n) : ∃ m, BH (t.setC b) m := by
  cases t with
  | nil => exact ⟨n, h⟩
  | node it c l r =>
    obtain ⟨m, h1, h2, h3⟩ := h
    exact ⟨_, m, h1, h2, rfl⟩
theorem nr_setC {t : Tr} (h : NR t) : NR (t.setC false) := by
  cases t with
  | nil => exact h
  | node it c l r => exact ⟨h.1, h.2.1, fun e => by cases e⟩
theorem red_setC {b : Bool} {t : Tr} (h : t.red = true) : (t.setC b).red = b := by
  cases t with
  | nil => cases h
  | node it c l r => rfl
/-! What follows a red node that is put in. -/
/-- The grandparent's part when the uncle is black. -/
def turnI (g f : Fr) (t : Tr) : Tr :=
  match g.left, f.left, t with
  | true, true, t => .node f.it false t (.node g.it true f.sib g.sib)
  | false, false, t => .node f.it false (.node g.it true g.sib f.sib) t
  | true, false, .node z _ zl zr => .node z false (.node f.it true f.sib zl) (.node g.it true zr g.sib)
  | false, true, .node z _ zl zr => .node z false (.node g.it true g.sib zl) (.node f.it true zr f.sib)
  | _, _, .nil => .nil
def fixI : List Fr → Tr → Tr
  | [], t => t
  | [f], t => f.fill t
  | f :: g :: k, t =>
    if f.c then
      if g.sib.red then fixI k (Fr.fill { g with c := true, sib := g.sib.setC false } (Fr.fill { f with c := false } t))
      else plug k (turnI g f t)
    else plug (f :: g :: k) t
structure FixPre (k : List Fr) (t : Tr) (n : Nat) : Prop where
  bh : BH t n
  bc : BC k n
  nr : NR t
  nrc : NRC k
  rd : t.red = true
  rb : rootB k
theorem rootB_tail2 {f : Fr} {k : List Fr} (h : rootB (f :: k)) : rootB k := by
  cases k with
  | nil => trivial
  | cons g k => exact h
theorem turnI_inL {g f : Fr} {t : Tr} (h : t.red = true) : (turnI g f t).inL = (g.fill (f.fill t)).inL := by
  cases t with
  | nil => cases h
  | node z c zl zr =>
    obtain ⟨gi, gc, gl, gs⟩ := g
    obtain ⟨fi, fc, fl, fs⟩ := f
    cases gl <;> cases fl <;> simp [turnI, Fr.fill, Tr.inL]
theorem turnI_bh {g f : Fr} {t : Tr} {n : Nat} (h : t.red = true) (hf : f.c = true) (hg : g.c = false) (h1 : BH t n) (h2 : BH f.sib n) (h3 : BH g.sib n) : BH (turnI g f t) (n + 1) := by
  cases t with
  | nil => cases h
  | node z c zl zr =>
    have hc : c = true := h
    subst hc
    obtain ⟨m, a, b, e⟩ := h1
    have e : n = m := e
    subst e
    obtain ⟨gi, gc, gl, gs⟩ := g
    obtain ⟨fi, fc, fl, fs⟩ := f
    cases gl <;> cases fl
    · exact ⟨n, ⟨n, h3, h2, rfl⟩, ⟨n, a, b, rfl⟩, rfl⟩
    · exact ⟨n, ⟨n, h3, a, rfl⟩, ⟨n, b, h2, rfl⟩, rfl⟩
    · exact ⟨n, ⟨n, h2, a, rfl⟩, ⟨n, b, h3, rfl⟩, rfl⟩
    · exact ⟨n, ⟨n, a, b, rfl⟩, ⟨n, h2, h3, rfl⟩, rfl⟩
theorem turnI_nr {g f : Fr} {t : Tr} (h : t.red = true) (h1 : NR t) (h2 : NR f.sib) (h3 : NR g.sib) (h4 : f.sib.red = false) (h5 : g.sib.red = false) : NR (turnI g f t) ∧ (turnI g f t).red = false := by
  cases t with
  | nil => cases h
  | node z c zl zr =>
    have hc : c = true := h
    subst hc
    obtain ⟨a, b, e⟩ := h1
    obtain ⟨e1, e2⟩ := e rfl
    obtain ⟨gi, gc, gl, gs⟩ := g
    obtain ⟨fi, fc, fl, fs⟩ := f
    refine ⟨?_, by cases gl <;> cases fl <;> rfl⟩
    cases gl <;> cases fl
    · exact ⟨⟨h3, h2, fun _ => ⟨h5, h4⟩⟩, ⟨a, b, e⟩, fun e => by cases e⟩
    · exact ⟨⟨h3, a, fun _ => ⟨h5, e1⟩⟩, ⟨b, h2, fun _ => ⟨e2, h4⟩⟩, fun e => by cases e⟩
    · exact ⟨⟨h2, a, fun _ => ⟨h4, e1⟩⟩, ⟨b, h3, fun _ => ⟨e2, h5⟩⟩, fun e => by cases e⟩
    · exact ⟨⟨a, b, e⟩, ⟨h2, h3, fun _ => ⟨h4, h5⟩⟩, fun e => by cases e⟩
theorem bh_black {t : Tr} {n : Nat} (h : t.red = true) (h1 : BH t n) : BH (t.setC false) (n + 1) := by
  cases t with
  | nil => cases h
  | node it c l r =>
    have hc : c = true := h
    subst hc
    obtain ⟨m, a, b, e⟩ := h1
    have e : n = m := e
    subst e
    exact ⟨n, a, b, rfl⟩
theorem fixI_ok : ∀ (N : Nat) (k : List Fr) (t : Tr) (n : Nat), k.length ≤ N → FixPre k t n → (fixI k t).inL = (plug k t).inL ∧ (∃ m, BH (fixI k t) m) ∧ NR (fixI k t) := by
  intro N
  induction N with
  | zero =>
    intro k t n hk P
    have : k = [] := List.eq_nil_of_length_eq_zero (by omega)
    subst this
    exact ⟨rfl, ⟨n, P.bh⟩, P.nr⟩
  | succ N ih =>
    intro k t n hk P
    match k, hk, P with
    | [], _, P => exact ⟨rfl, ⟨n, P.bh⟩, P.nr⟩
    | [f], _, P =>
      obtain ⟨p1, p2, p3, p4, p5, p6⟩ := P
      have hf : f.c = false := p6
      refine ⟨rfl, ⟨_, bh_fill p1 p2.1⟩, nr_fill p3 p4.1 (fun e => ?_) (fun e => ?_)⟩
      · rw [hf] at e; cases e
      · rw [hf] at e; cases e
    | f :: g :: k, hk, P =>
      obtain ⟨p1, p2, p3, p4, p5, p6⟩ := P
      unfold fixI
      cases hf : f.c with
      | false =>
        rw [if_neg (by simp)]
        refine ⟨rfl, bh_plug _ _ _ p1 p2, nr_plug _ _ p3 p4 (fun _ => hf)⟩
      | true =>
        rw [if_pos rfl]
        obtain ⟨b1, b2, b3⟩ := p2
        obtain ⟨n1, n2, n3, n4, n5⟩ := p4
        obtain ⟨n6, n7⟩ := n2 hf
        have hg : g.c = false := n7
        rw [hf] at b2 b3
        simp only [if_true, Nat.add_zero] at b2 b3
        rw [hg] at b3
        simp only [Bool.false_eq_true, if_false] at b3
        cases hu : g.sib.red with
        | true =>
          rw [if_pos rfl]
          have P2 : FixPre k (Fr.fill { g with c := true, sib := g.sib.setC false } (Fr.fill { f with c := false } t)) (n + 1) :=
            ⟨bh_fill (f := { g with c := true, sib := g.sib.setC false }) (bh_fill (f := { f with c := false }) p1 b1) (bh_black hu b2), b3,
              nr_fill (nr_fill p3 n1 (fun e => by cases e) (fun e => by cases e)) (nr_setC n3) (fun _ => red_setC hu) (fun _ => red_fill), n5, red_fill, rootB_tail2 (rootB_tail2 p6)⟩
          obtain ⟨q1, q2, q3⟩ := ih k _ (n + 1) (by simp at hk; omega) P2
          refine ⟨?_, q2, q3⟩
          rw [q1, inL_plug, plug, plug, inL_plug]
          simp only [inL_fill, setC_inL]
        | false =>
          rw [if_neg (by simp)]
          obtain ⟨r1, r2⟩ := turnI_nr (g := g) (f := f) p5 p3 n1 n3 n6 hu
          refine ⟨?_, bh_plug _ _ _ (turnI_bh p5 hf hg p1 b1 b2) b3, nr_plug _ _ r1 n5 (fun e => by rw [r2] at e; cases e)⟩
          rw [inL_plug, turnI_inL p5, plug, plug, inL_plug]
/-! Where an interval goes. -/
def goL (o : Int) (B E : EN) (it : It) : Bool := ltE o B it.B || (!ltE o it.B B && ltE o E it.E)
def path (o : Int) (B E : EN) : Tr → List Fr → List Fr
  | .nil, k => k
  | .node it c l r, k => if goL o B E it then path o B E l (⟨it, c, true, r⟩ :: k) else path o B E r (⟨it, c, false, l⟩ :: k)
theorem plug_path {o : Int} {B E : EN} : ∀ (t : Tr) (k : List Fr), plug (path o B E t k) .nil = plug k t
  | .nil, k => rfl
  | .node it c l r, k => by
    unfold path
    split
    · rw [plug_path l]; rfl
    · rw [plug_path r]; rfl
def ins (o : Int) (z : It) (T : Tr) : Tr := (fixI (path o z.B z.E T []) (.node z true .nil .nil)).setC false
/-- In order. -/
def Srt (o : Int) (l : List It) : Prop := l.Pairwise fun x y => goL o y.B y.E x = false
def putI (o : Int) (z : It) : List It → List It
  | [] => [z]
  | x :: l => if goL o z.B z.E x then z :: x :: l else x :: putI o z l
theorem goL_trans {o : Int} {B E : EN} {x y : It} (h1 : goL o B E x = true) (h2 : goL o y.B y.E x = false) : goL o B E y = true := by
  unfold goL at *
  simp only [Bool.or_eq_true, Bool.and_eq_true, Bool.not_eq_true', Bool.or_eq_false_iff, Bool.and_eq_false_iff] at *
  obtain ⟨h2, h3⟩ := h2
  rcases h1 with h1 | ⟨h1, h4⟩
  · exact .inl (ltE_trans h1 h2)
  · cases hb : ltE o B y.B with
    | true => exact .inl rfl
    | false =>
      right
      have h5 : ltE o y.B B = false := by
        cases h6 : ltE o y.B B with
        | false => rfl
        | true => have := ltE_trans h6 h1; rw [h2] at this; cases this
      have h6 : ltE o x.B y.B = false := nlt_trans hb h1
      refine ⟨h5, ?_⟩
      rcases h3 with h3 | h3
      · simp at h3; rw [h6] at h3; cases h3
      · exact ltE_trans h4 h3
/-- What stands ahead of what z is put ahead of. -/
theorem goL_up {o : Int} {B E : EN} {x y : It} (h1 : goL o B E y = false) (h2 : goL o y.B y.E x = false) : goL o B E x = false := by
  cases h : goL o B E x with
  | false => rfl
  | true => have := goL_trans h h2; rw [h1] at this; cases this
theorem path_ok {o : Int} {B E : EN} : ∀ (t : Tr) (k : List Fr), Srt o (plug k t).inL → (∀ x ∈ preC k, goL o B E x = false) → (∀ x ∈ postC k, goL o B E x = true) →
    (∀ x ∈ preC (path o B E t k), goL o B E x = false) ∧ (∀ x ∈ postC (path o B E t k), goL o B E x = true)
  | .nil, k, _, h1, h2 => ⟨h1, h2⟩
  | .node it c l r, k, hs, h1, h2 => by
    have hs0 := hs
    rw [inL_plug] at hs
    unfold Srt at hs
    rw [List.pairwise_append] at hs
    obtain ⟨_, hs, _⟩ := hs
    rw [List.pairwise_append] at hs
    obtain ⟨hs, _, _⟩ := hs
    rw [Tr.inL, List.pairwise_append] at hs
    obtain ⟨_, hs2, hs3⟩ := hs
    rw [List.pairwise_cons] at hs2
    unfold path
    cases hg : goL o B E it with
    | true =>
      rw [if_pos rfl]
      refine path_ok l _ hs0 h1 ?_
      intro x hx
      unfold postC at hx
      simp only [if_true, List.mem_cons, List.mem_append] at hx
      rcases hx with rfl | hx | hx
      · exact hg
      · exact goL_trans hg (hs2.1 x hx)
      · exact h2 x hx
    | false =>
      rw [if_neg (by simp)]
      refine path_ok r _ hs0 ?_ h2
      intro x hx
      unfold preC at hx
      simp only [Bool.false_eq_true, if_false, List.mem_append, List.mem_cons, List.not_mem_nil, or_false] at hx
      rcases hx with hx | hx | rfl
      · exact h1 x hx
      · exact goL_up hg (hs3 x hx it (List.mem_cons_self ..))
      · exact hg
theorem putI_at {o : Int} {z : It} : ∀ {A C : List It}, (∀ x ∈ A, goL o z.B z.E x = false) → (∀ x ∈ C, goL o z.B z.E x = true) → putI o z (A ++ C) = A ++ z :: C
  | [], [], _, _ => rfl
  | [], x :: C, _, h => by rw [List.nil_append, putI, if_pos (h x (List.mem_cons_self ..))]; rfl
  | x :: A, C, h1, h2 => by
    rw [List.cons_append, putI, if_neg (by rw [h1 x (List.mem_cons_self ..)]; simp), putI_at (fun y hy => h1 y (List.mem_cons_of_mem _ hy)) h2]
    rfl
theorem path_pre {o : Int} {B E : EN} : ∀ (t : Tr) (k : List Fr) (n : Nat), BH t n → BC k n → NR t → NRC k → (t.red = true → redP k = false) → rootB k → (k = [] → t.red = false) →
    BC (path o B E t k) 0 ∧ NRC (path o B E t k) ∧ rootB (path o B E t k)
  | .nil, k, n, h1, h2, h3, h4, h5, h6, h7 => by
    have : n = 0 := h1
    subst this
    exact ⟨h2, h4, h6⟩
  | .node it c l r, k, n, h1, h2, h3, h4, h5, h6, h7 => by
    obtain ⟨m, a, b, rfl⟩ := h1
    obtain ⟨n1, n2, n3⟩ := h3
    have rb : ∀ f : Fr, f.c = c → rootB (f :: k) := by
      intro f hf
      cases k with
      | nil => exact hf.trans (h7 rfl)
      | cons g k => exact h6
    unfold path
    split
    · refine path_pre l _ m a ⟨b, h2⟩ n1 ⟨n2, fun e => ⟨(n3 e).2, h5 e⟩, h4⟩ (fun e => ?_) (rb _ rfl) (fun e => by cases e)
      show c = false
      cases hc : c with
      | false => rfl
      | true => have := (n3 hc).1; rw [e] at this; cases this
    · refine path_pre r _ m b ⟨a, h2⟩ n2 ⟨n1, fun e => ⟨(n3 e).1, h5 e⟩, h4⟩ (fun e => ?_) (rb _ rfl) (fun e => by cases e)
      show c = false
      cases hc : c with
      | false => rfl
      | true => have := (n3 hc).2; rw [e] at this; cases this
/-- What a tree is. -/
structure RB (T : Tr) : Prop where
  bh : ∃ n, BH T n
  nr : NR T
  rt : T.red = false
theorem RB.fixPre {T : Tr} (h : RB T) (o : Int) (z : It) : FixPre (path o z.B z.E T []) (.node z true .nil .nil) 0 := by
  obtain ⟨n, hn⟩ := h.bh
  obtain ⟨a, b, c⟩ := path_pre (o := o) (B := z.B) (E := z.E) T [] n hn trivial h.nr trivial (fun e => by rw [h.rt] at e; cases e) trivial (fun _ => h.rt)
  exact ⟨⟨0, rfl, rfl, rfl⟩, a, ⟨trivial, trivial, fun _ => ⟨rfl, rfl⟩⟩, b, rfl, c⟩
theorem ins_ok {o : Int} {z : It} {T : Tr} (h : RB T) (hs : Srt o T.inL) : RB (ins o z T) ∧ (ins o z T).inL = putI o z T.inL := by
  obtain ⟨a, ⟨m, b⟩, c⟩ := fixI_ok _ _ _ _ (Nat.le_refl _) (h.fixPre o z)
  refine ⟨⟨bh_setC b, nr_setC c, ?_⟩, ?_⟩
  · unfold ins; cases fixI (path o z.B z.E T []) (.node z true .nil .nil) <;> rfl
  · obtain ⟨p1, p2⟩ := path_ok (o := o) (B := z.B) (E := z.E) T [] hs (by intro x hx; cases hx) (by intro x hx; cases hx)
    have e := inL_plug (path o z.B z.E T []) .nil
    rw [plug_path] at e
    have e : T.inL = preC (path o z.B z.E T []) ++ postC (path o z.B z.E T []) := e
    unfold ins
    rw [setC_inL, a, inL_plug, e, putI_at p1 p2]
    rfl
theorem putI_mem {o : Int} {z x : It} : ∀ {l : List It}, x ∈ putI o z l ↔ x = z ∨ x ∈ l
  | [] => by simp [putI]
  | y :: l => by
    rw [putI]
    split
    · simp
    · simp only [List.mem_cons, putI_mem (l := l)]
      constructor
      · rintro (h | h | h)
        · exact .inr (.inl h)
        · exact .inl h
        · exact .inr (.inr h)
      · rintro (h | h | h)
        · exact .inr (.inl h)
        · exact .inl h
        · exact .inr (.inr h)
theorem goL_irr {o : Int} {x : It} : goL o x.B x.E x = false := by
  unfold goL
  rw [ltE_irrefl, ltE_irrefl]; rfl
theorem goL_asymm {o : Int} {x y : It} (h : goL o x.B x.E y = true) : goL o y.B y.E x = false := by
  cases h2 : goL o y.B y.E x with
  | false => rfl
  | true =>
    have := goL_trans (B := x.B) (E := x.E) (y := x) h (by
      cases h3 : goL o x.B x.E y with
      | false => rfl
      | true =>
        unfold goL at h h2
        simp only [Bool.or_eq_true, Bool.and_eq_true, Bool.not_eq_true'] at h h2
        rcases h with h | ⟨h, h4⟩
        · have h5 := ltE_asymm h
          rcases h2 with h2 | ⟨h2, h6⟩
          · rw [h5] at h2; cases h2
          · rw [h] at h2; cases h2
        · rcases h2 with h2 | ⟨h2, h6⟩
          · rw [h] at h2; cases h2
          · have := ltE_asymm h4; rw [h6] at this; cases this)
    rw [goL_irr] at this; cases this
theorem putI_srt {o : Int} {z : It} : ∀ {l : List It}, Srt o l → Srt o (putI o z l)
  | [], _ => by simp [putI, Srt]
  | x :: l, h => by
    unfold Srt at h ⊢
    rw [List.pairwise_cons] at h
    rw [putI]
    cases hg : goL o z.B z.E x with
    | true =>
      rw [if_pos rfl, List.pairwise_cons, List.pairwise_cons]
      refine ⟨fun y hy => ?_, h⟩
      rcases List.mem_cons.1 hy with rfl | hy
      · exact goL_asymm hg
      · exact goL_asymm (goL_trans hg (h.1 y hy))
    | false =>
      rw [if_neg (by simp), List.pairwise_cons]
      refine ⟨fun y hy => ?_, putI_srt h.2⟩
      rcases putI_mem.1 hy with rfl | hy
      · exact hg
      · exact h.1 y hy
end Go.Proofs.Ytobolifgehagfaa

set_option linter.unusedVariables false
set_option linter.unusedSimpArgs false
set_option linter.unnecessarySimpa false
namespace Go.Proofs.Ytobolifgehagfaa
open Go Go.Den Go.Proofs
/-! Heights. -/
def Tr.ht : Tr → Nat
  | .nil => 0
  | .node _ _ l r => (if l.ht < r.ht then r.ht else l.ht) + 1
/-! What is met. -/
def cmpI (o : Int) (b e b2 e2 : EN) : Int := if cmpE o b b2 < 0 ∧ cmpE o e b2 ≤ 0 then -1 else if 0 ≤ cmpE o b e2 then 1 else 0
def meetI (o : Int) (B E : EN) (it : It) : Bool := ltE o B it.E && ltE o it.B E
def vis (o : Int) (B E : EN) : Tr → List It
  | .nil => []
  | .node it c l r =>
    if cmpI o B E it.B it.E < 0 then vis o B E l
    else if 0 < cmpI o B E it.B it.E then (if cmpI o it.B (mx3 o it.E (l.mx o) (r.mx o)) B E = 0 then vis o B E l ++ vis o B E r else [])
    else vis o B E l ++ it :: vis o B E r
theorem cmpI_law {o : Int} {b e b2 e2 : EN} (h1 : ltE o b e = true) (h2 : ltE o b2 e2 = true) : cmpI o b e b2 e2 = if ltE o b e2 && ltE o b2 e then 0 else if ltE o b b2 || (!ltE o b2 b && ltE o e e2) then -1 else 1 := by
  have := spans_law (o := o) (s := ⟨b.1, e.1, false, b.2, e.2⟩) (t := ⟨b2.1, e2.1, false, b2.2, e2.2⟩) h1 h2
  exact this
theorem mx2_up {o : Int} {e : EN} {a : Option EN} : ltE o (mx2 o e a) e = false ∧ ∀ x, a = some x → ltE o (mx2 o e a) x = false := by
  cases a with
  | none => exact ⟨ltE_irrefl .., fun _ h => by cases h⟩
  | some a =>
    unfold mx2
    dsimp only
    cases h : ltE o e a with
    | true =>
      rw [if_pos rfl]
      exact ⟨ltE_asymm h, fun x hx => by cases hx; exact ltE_irrefl ..⟩
    | false =>
      rw [if_neg (by simp)]
      exact ⟨ltE_irrefl .., fun x hx => by cases hx; exact h⟩
theorem mx3_up {o : Int} {e : EN} {a b : Option EN} : ltE o (mx3 o e a b) e = false ∧ (∀ x, a = some x → ltE o (mx3 o e a b) x = false) ∧ (∀ x, b = some x → ltE o (mx3 o e a b) x = false) := by
  have h1 := mx2_up (o := o) (e := mx2 o e a) (a := b)
  have h2 := mx2_up (o := o) (e := e) (a := a)
  refine ⟨nlt_trans h2.1 h1.1, fun x hx => nlt_trans (h2.2 x hx) h1.1, h1.2⟩
theorem mx_up {o : Int} : ∀ (T : Tr) (m : EN), T.mx o = some m → ∀ x ∈ T.inL, ltE o m x.E = false
  | .nil, m, h, x, hx => by cases hx
  | .node it c l r, m, h, x, hx => by
    have h : mx3 o it.E (l.mx o) (r.mx o) = m := by simpa [Tr.mx] using h
    subst h
    obtain ⟨u1, u2, u3⟩ := mx3_up (o := o) (e := it.E) (a := l.mx o) (b := r.mx o)
    rw [Tr.inL] at hx
    rcases List.mem_append.1 hx with hx | hx
    · cases hl : l.mx o with
      | none => cases l with
        | nil => cases hx
        | node _ _ _ _ => simp [Tr.mx] at hl
      | some a => rw [← hl]; exact nlt_trans (mx_up l a hl x hx) (u2 a hl)
    · rcases List.mem_cons.1 hx with rfl | hx
      · exact u1
      · cases hr : r.mx o with
        | none => cases r with
          | nil => cases hx
          | node _ _ _ _ => simp [Tr.mx] at hr
        | some a => rw [← hr]; exact nlt_trans (mx_up r a hr x hx) (u3 a hr)
theorem filter_none {α : Type} {p : α → Bool} {l : List α} (h : ∀ x ∈ l, p x = false) : l.filter p = [] := by
  rw [List.filter_eq_nil_iff]
  intro x hx
  rw [h x hx]; simp
theorem vis_ok {o : Int} {B E : EN} (hp : ltE o B E = true) : ∀ T : Tr, Srt o T.inL → (∀ x ∈ T.inL, ltE o x.B x.E = true) → vis o B E T = T.inL.filter (meetI o B E)
  | .nil, _, _ => rfl
  | .node it c l r, hs, hx => by
    have hs0 := hs
    unfold Srt at hs
    rw [Tr.inL, List.pairwise_append] at hs
    obtain ⟨s1, s2, s3⟩ := hs
    rw [List.pairwise_cons] at s2
    have el := vis_ok hp l s1 (fun x h => hx x (by simp [Tr.inL, h]))
    have er := vis_ok hp r s2.2 (fun x h => hx x (by simp [Tr.inL, h]))
    have hi := hx it (by simp [Tr.inL])
    unfold vis
    rw [el, er, cmpI_law hp hi, Tr.inL, List.filter_append, List.filter_cons]
    cases hm : meetI o B E it with
    | true =>
      have hm' : (ltE o B it.E && ltE o it.B E) = true := hm
      rw [hm']; simp
    | false =>
      have hm' : (ltE o B it.E && ltE o it.B E) = false := hm
      rw [hm']
      simp only [Bool.false_eq_true, if_false]
      cases ha : ltE o B it.B || (!ltE o it.B B && ltE o E it.E) with
      | true =>
        simp only [if_true]
        rw [if_pos (by omega)]
        rw [filter_none (l := r.inL) (fun x h => ?_), List.append_nil]
        -- B < it.E: as it is not met, E ≤ it.B
        have h1 : ltE o B it.E = true := by
          simp only [Bool.or_eq_true, Bool.and_eq_true, Bool.not_eq_true'] at ha
          rcases ha with ha | ⟨ha, hb⟩
          · exact ltE_trans ha (ltE_asymm hi)
          · exact ltE_trans hp (ltE_asymm hb)
        rw [h1, Bool.true_and] at hm'
        have h2 : ltE o x.B it.B = false := by
          have := s2.1 x h
          unfold goL at this
          simp only [Bool.or_eq_false_iff] at this
          exact this.1
        unfold meetI
        rw [nlt_trans hm' h2, Bool.and_false]
      | false =>
        simp only [Bool.false_eq_true, if_false]
        rw [if_neg (by omega), if_pos (by omega)]
        -- B ≥ it.E
        have h1 : ltE o B it.E = false := by
          cases h : ltE o B it.E with
          | false => rfl
          | true =>
            rw [h, Bool.true_and] at hm'
            have : ltE o B it.B = true := ltE_trans hp hm'
            rw [this] at ha; simp at ha
        split
        · rfl
        · rename_i hc
          rw [filter_none (l := l.inL), filter_none (l := r.inL)]
          · rfl
          all_goals
            intro x h
            have hup := mx_up (o := o) (.node it c l r) _ rfl x (by simp [Tr.inL, h])
            have hpm : ltE o it.B (mx3 o it.E (l.mx o) (r.mx o)) = true := ltE_trans hi (mx3_up (o := o)).1
            rw [cmpI_law hpm hp] at hc
            have hle : ltE o B (mx3 o it.E (l.mx o) (r.mx o)) = false := by
              cases h9 : ltE o B (mx3 o it.E (l.mx o) (r.mx o)) with
              | false => rfl
              | true =>
                exfalso
                apply hc
                rw [h9]
                have : ltE o it.B E = true := ltE_trans (ltE_trans hi h1) (ltE_asymm hp)
                rw [this]; rfl
            unfold meetI
            rw [nlt_trans hup hle, Bool.false_and]
end Go.Proofs.Ytobolifgehagfaa

set_option linter.unusedVariables false
set_option linter.unusedSimpArgs false
set_option linter.unnecessarySimpa false
namespace Go.Proofs.Ytobolifgehagfaa
open Go Go.Den Go.Proofs
def foldV {σ : Type} (f : σ → It → σ × Bool) : σ → List It → σ × Bool
  | s, [] => (s, true)
  | s, x :: l => if (f s x).2 then foldV f (f s x).1 l else ((f s x).1, false)
end Go.Proofs.Ytobolifgehagfaa
