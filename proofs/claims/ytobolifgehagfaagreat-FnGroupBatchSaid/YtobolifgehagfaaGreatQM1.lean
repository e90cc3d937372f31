/- What functions of this seat do, each proved by a walk; no condition. -/
import Derived.Test.YtobolifgehagfaaGreatDenZC
import Derived.Test.YtobolifgehagfaaGreatQC
import Derived.Test.YtobolifgehagfaaGreatDenZC
set_option linter.unusedVariables false
set_option linter.unusedSimpArgs false
set_option linter.unnecessarySimpa false
namespace Go.Proofs.YtobolifgehagfaaGreat
open Go Go.Den Go.Proofs
theorem wr {i : Int} (h0 : -9223372036854775808 ≤ i) (h1 : i < 9223372036854775808) : IntKind.wrap .i64 i = i := wr64 h0 h1
theorem bl_flip : ∀ (a b : List UInt8), Op.bytesLess b a = (!Op.bytesLess a b && !(a == b))
  | [], [] => by simp [Op.bytesLess]
  | [], _ :: _ => by simp [Op.bytesLess]
  | _ :: _, [] => by simp [Op.bytesLess]
  | x :: a, y :: b => by
    have ih := bl_flip a b
    unfold Op.bytesLess
    rcases Nat.lt_trichotomy x.toNat y.toNat with h | h | h
    · have hlt : x < y := h
      have hn : ¬ y < x := by intro hh; have : y.toNat < x.toNat := hh; omega
      have hne : ¬ x = y := by intro e; subst e; omega
      have hne' : ¬ y = x := fun e => hne e.symm
      simp [hlt, hn, hne, hne']
    · have he : x = y := UInt8.toNat.inj h
      subst he
      simp [UInt8.lt_irrefl, ih]
    · have hgt : y < x := h
      have hn : ¬ x < y := by intro hh; have : x.toNat < y.toNat := hh; omega
      have hne : ¬ x = y := by intro e; subst e; omega
      simp [hn, hgt, hne]
theorem ltS_flip (a b : ByteArray) : (!(ltS a b || eqS a b)) = ltS b a := by
  unfold ltS eqS
  rw [bl_flip a.toList b.toList, Bool.not_or]
theorem ltS_asymm {a b : ByteArray} (h : ltS a b = true) : ltS b a = false := by
  have := ltS_flip b a
  rw [h] at this
  cases hb : ltS b a with
  | false => rfl
  | true => rw [hb] at this; simp at this

theorem bl_trans : ∀ (a b c : List UInt8), Op.bytesLess a b = true → Op.bytesLess c b = false → Op.bytesLess a c = true
  | [], [], _, h, _ => by simp [Op.bytesLess] at h
  | [], _ :: _, [], _, h => by simp [Op.bytesLess] at h
  | [], _ :: _, _ :: _, _, _ => by simp [Op.bytesLess]
  | _ :: _, [], _, h, _ => by simp [Op.bytesLess] at h
  | _ :: _, _ :: _, [], _, h => by simp [Op.bytesLess] at h
  | x :: a, y :: b, z :: c, h1, h2 => by
    unfold Op.bytesLess at h1 h2 ⊢
    simp only [Bool.or_eq_true, Bool.and_eq_true, decide_eq_true_eq, beq_iff_eq, Bool.or_eq_false_iff, decide_eq_false_iff_not, Bool.and_eq_false_iff, beq_eq_false_iff_ne] at h1 h2 ⊢
    obtain ⟨h2, h3⟩ := h2
    have l : ∀ u v : UInt8, u < v ↔ u.toNat < v.toNat := fun u v => Iff.rfl
    rw [l] at h1 h2 ⊢
    rcases h1 with h1 | ⟨rfl, h1⟩
    · left; omega
    · by_cases hz : x.toNat < z.toNat
      · exact .inl hz
      · have e : x = z := UInt8.toNat.inj (by omega)
        subst e
        right
        refine ⟨rfl, bl_trans a b c h1 ?_⟩
        rcases h3 with h3 | h3
        · exact absurd rfl h3
        · cases hb : Op.bytesLess c b with
          | false => rfl
          | true => rw [hb] at h3; simp at h3
theorem ltS_trans {a b c : ByteArray} (h1 : ltS a b = true) (h2 : ltS c b = false) : ltS a c = true := bl_trans _ _ _ h1 h2
theorem eqS_nil (a : ByteArray) : eqS a (ByteArray.mk #[]) = decide (a.size = 0) := by
  unfold eqS
  rw [ByteArray.toList_eq, ByteArray.toList_eq, Bool.eq_iff_iff, decide_eq_true_iff, beq_iff_eq]
  obtain ⟨⟨l⟩⟩ := a
  show l = [] ↔ l.length = 0
  rw [List.length_eq_zero_iff]
theorem ltS_nil (a : ByteArray) (h : a.size = 0) (b : ByteArray) : ltS b a = false := by
  unfold ltS
  rw [ByteArray.toList_eq, ByteArray.toList_eq]
  obtain ⟨⟨l⟩⟩ := a
  have : l = [] := List.length_eq_zero_iff.1 h
  subst this
  show Op.bytesLess b.data.toList [] = false
  cases b.data.toList <;> rfl
abbrev EN := ByteArray × Int
def ltE (o : Int) (x y : EN) : Bool := if o = 3 then decide (x.2 < y.2) else if o ≠ 0 ∧ ¬ (x.1.size = 0 ↔ y.1.size = 0) then decide (y.1.size = 0) else ltS x.1 y.1
def cmpE (o : Int) (x y : EN) : Int := if ltE o x y then -1 else if ltE o y x then 1 else 0
theorem ltE_asymm {o : Int} {x y : EN} (h : ltE o x y = true) : ltE o y x = false := by
  unfold ltE at h ⊢
  by_cases h3 : o = 3
  · rw [if_pos h3] at h ⊢
    have := of_decide_eq_true h
    exact decide_eq_false (by omega)
  · rw [if_neg h3] at h ⊢
    by_cases hm : o ≠ 0 ∧ ¬ (x.1.size = 0 ↔ y.1.size = 0)
    · rw [if_pos hm] at h
      rw [if_pos ⟨hm.1, fun e => hm.2 e.symm⟩]
      have h := of_decide_eq_true h
      refine decide_eq_false (fun e => hm.2 ⟨fun _ => h, fun _ => e⟩)
    · rw [if_neg hm] at h
      rw [if_neg (fun e => hm ⟨e.1, fun e2 => e.2 e2.symm⟩)]
      exact ltS_asymm h
theorem ltE_trans {o : Int} {x y z : EN} (h1 : ltE o x y = true) (h2 : ltE o z y = false) : ltE o x z = true := by
  unfold ltE at h1 h2 ⊢
  by_cases h3 : o = 3
  · rw [if_pos h3] at h1 h2 ⊢
    have := of_decide_eq_true h1
    have := of_decide_eq_false h2
    exact decide_eq_true (by omega)
  · rw [if_neg h3] at h1 h2 ⊢
    by_cases h0 : o = 0
    · have e : ∀ u v : EN, ¬ (o ≠ 0 ∧ ¬ (u.1.size = 0 ↔ v.1.size = 0)) := fun u v h => h.1 h0
      rw [if_neg (e _ _)] at h1 h2 ⊢
      exact ltS_trans h1 h2
    · have e : ∀ u v : EN, (o ≠ 0 ∧ ¬ (u.1.size = 0 ↔ v.1.size = 0)) ↔ ¬ (u.1.size = 0 ↔ v.1.size = 0) := fun u v => ⟨fun h => h.2, fun h => ⟨h0, h⟩⟩
      simp only [e] at h1 h2 ⊢
      by_cases hx : x.1.size = 0
      · by_cases hy : y.1.size = 0
        · rw [if_neg (by simp [hx, hy])] at h1
          rw [ltS_nil _ hy] at h1; cases h1
        · rw [if_pos (by simp [hx, hy])] at h1
          exact absurd (of_decide_eq_true h1) hy
      · by_cases hz : z.1.size = 0
        · rw [if_pos (by simp [hx, hz])]
          exact decide_eq_true hz
        · rw [if_neg (by simp [hx, hz])]
          by_cases hy : y.1.size = 0
          · rw [if_pos (by simp [hz, hy])] at h2
            exact absurd hy (of_decide_eq_false h2)
          · rw [if_neg (by simp [hx, hy])] at h1
            rw [if_neg (by simp [hz, hy])] at h2
            exact ltS_trans h1 h2
structure SP where
  b : ByteArray
  e : ByteArray
  p : Bool
  f : Int
  t : Int
abbrev SP.cells (s : SP) : List Value := [.string s.b, .string s.e, .bool s.p, .int .i64 s.f, .int .i64 s.t]
def SP.end_ (s : SP) : ByteArray := if s.p then s.b ++ ⟨#[0]⟩ else s.e
def SP.B (s : SP) : EN := (s.b, s.f)
def SP.E (s : SP) : EN := (s.end_, s.t)
theorem cat_size (a : ByteArray) : (a ++ (⟨#[0]⟩ : ByteArray)).size = a.size + 1 := by rw [ByteArray.size_append]; rfl
def meetS (o : Int) (s t : SP) : Bool := ltE o s.B t.E && ltE o t.B s.E
def aheadS (o : Int) (s t : SP) : Bool := ltE o s.B t.B || (!ltE o t.B s.B && ltE o s.E t.E)
theorem cmpE_neg {o : Int} {x y : EN} : decide (cmpE o x y < 0) = ltE o x y := by
  unfold cmpE
  cases h : ltE o x y with
  | true => simp
  | false => simp only [Bool.false_eq_true, if_false]; split <;> simp
theorem cmpE_zero {o : Int} {x y : EN} : (cmpE o x y == 0) = (!ltE o x y && !ltE o y x) := by
  unfold cmpE
  cases h : ltE o x y with
  | true => simp
  | false => simp only [Bool.false_eq_true, if_false]; cases h2 : ltE o y x <;> simp
theorem spans_law {o : Int} {s t : SP} (hs : ltE o s.B s.E = true) (ht : ltE o t.B t.E = true) :
    (if cmpE o s.B t.B < 0 ∧ cmpE o s.E t.B ≤ 0 then (-1 : Int) else if 0 ≤ cmpE o s.B t.E then 1 else 0) = (if meetS o s t then 0 else if aheadS o s t then -1 else 1) := by
  have c1 : cmpE o s.B t.B < 0 ↔ ltE o s.B t.B = true := by rw [← cmpE_neg, decide_eq_true_iff]
  have c2 : cmpE o s.E t.B ≤ 0 ↔ ltE o t.B s.E = false := by
    unfold cmpE
    constructor
    · intro h
      cases h2 : ltE o s.E t.B with
      | true => exact ltE_asymm h2
      | false =>
        rw [h2] at h
        cases h3 : ltE o t.B s.E with
        | true => rw [h3] at h; simp at h
        | false => rfl
    · intro h
      rw [h]
      split <;> simp
  have c3 : 0 ≤ cmpE o s.B t.E ↔ ltE o s.B t.E = false := by
    have : cmpE o s.B t.E < 0 ↔ ltE o s.B t.E = true := by rw [← cmpE_neg, decide_eq_true_iff]
    constructor
    · intro h
      cases h2 : ltE o s.B t.E with
      | true => have := this.2 h2; omega
      | false => rfl
    · intro h
      have h3 : ¬ cmpE o s.B t.E < 0 := by rw [this, h]; simp
      omega
  simp only [c1, c2, c3]
  unfold meetS aheadS
  cases h1 : ltE o t.B s.E with
  | false =>
    have h2 : ltE o s.B t.B = true := ltE_trans hs h1
    simp [h2]
  | true =>
    cases h2 : ltE o s.B t.E with
    | true => simp
    | false =>
      have h3 : ltE o t.B s.B = true := ltE_trans ht h2
      have h4 := ltE_asymm h3
      simp [h3, h4]
end Go.Proofs.YtobolifgehagfaaGreat

set_option linter.unusedVariables false
set_option linter.unusedSimpArgs false
set_option linter.unnecessarySimpa false
namespace Go.Proofs.YtobolifgehagfaaGreat
open Go Go.Den Go.Proofs
structure It where
  r : Nat
  i : IV
  j : IV
  v : IV
  B : EN
  E : EN
inductive Tr
  | nil
  | node (it : It) (c : Bool) (l r : Tr)
def Tr.ref (sr : Nat) : Tr → Nat
  | .nil => sr
  | .node it _ _ _ => it.r
def Tr.inL : Tr → List It
  | .nil => []
  | .node it _ l r => l.inL ++ it :: r.inL
def Tr.red : Tr → Bool
  | .nil => false
  | .node _ c _ _ => c
def Tr.setC (b : Bool) : Tr → Tr
  | .nil => .nil
  | .node it _ l r => .node it b l r
structure Fr where
  it : It
  c : Bool
  left : Bool
  sib : Tr
def par (sr : Nat) : List Fr → Nat
  | [] => sr
  | f :: _ => f.it.r
def Fr.fill (f : Fr) (t : Tr) : Tr := if f.left then .node f.it f.c t f.sib else .node f.it f.c f.sib t
def plug : List Fr → Tr → Tr
  | [], t => t
  | f :: k, t => plug k (f.fill t)
def preC : List Fr → List It
  | [] => []
  | f :: k => if f.left then preC k else preC k ++ (f.sib.inL ++ [f.it])
def postC : List Fr → List It
  | [] => []
  | f :: k => if f.left then f.it :: (f.sib.inL ++ postC k) else postC k
theorem inL_fill (f : Fr) (t : Tr) : (f.fill t).inL = if f.left then t.inL ++ f.it :: f.sib.inL else f.sib.inL ++ f.it :: t.inL := by
  unfold Fr.fill
  split <;> rfl
theorem inL_plug : ∀ (k : List Fr) (t : Tr), (plug k t).inL = preC k ++ (t.inL ++ postC k)
  | [], t => by simp [plug, preC, postC]
  | f :: k, t => by
    rw [plug, inL_plug k, inL_fill, preC, postC]
    split <;> simp
def eqE (o : Int) (a b : EN) : Prop := ltE o a b = false ∧ ltE o b a = false
theorem ltE_irrefl (o : Int) (a : EN) : ltE o a a = false := by
  cases h : ltE o a a with
  | false => rfl
  | true => have := ltE_asymm h; rw [h] at this; cases this
theorem eqE.refl (o : Int) (a : EN) : eqE o a a := ⟨ltE_irrefl o a, ltE_irrefl o a⟩
theorem eqE.symm {o : Int} {a b : EN} (h : eqE o a b) : eqE o b a := ⟨h.2, h.1⟩
theorem nlt_trans {o : Int} {a b c : EN} (h1 : ltE o b a = false) (h2 : ltE o c b = false) : ltE o c a = false := by
  cases h : ltE o c a with
  | false => rfl
  | true => have := ltE_trans h h1; rw [h2] at this; cases this
theorem eqE.trans {o : Int} {a b c : EN} (h1 : eqE o a b) (h2 : eqE o b c) : eqE o a c := ⟨nlt_trans h2.1 h1.1, nlt_trans h1.2 h2.2⟩
theorem eqE.lt_l {o : Int} {a b c : EN} (h : eqE o a b) : ltE o a c = ltE o b c := by
  rw [Bool.eq_iff_iff]
  constructor
  · intro h1
    cases h2 : ltE o b c with
    | true => rfl
    | false => have := nlt_trans h2 h.1; rw [h1] at this; cases this
  · intro h1
    cases h2 : ltE o a c with
    | true => rfl
    | false => have := nlt_trans h2 h.2; rw [h1] at this; cases this
theorem eqE.lt_r {o : Int} {a b c : EN} (h : eqE o a b) : ltE o c a = ltE o c b := by
  rw [Bool.eq_iff_iff]
  constructor
  · intro h1
    cases h2 : ltE o c b with
    | true => rfl
    | false => have := nlt_trans h.2 h2; rw [h1] at this; cases this
  · intro h1
    cases h2 : ltE o c a with
    | true => rfl
    | false => have := nlt_trans h.1 h2; rw [h1] at this; cases this
theorem cmpE_eqE {o : Int} {x y : EN} : (cmpE o x y == 0) = true ↔ eqE o x y := by
  rw [cmpE_zero]
  unfold eqE
  cases ltE o x y <;> cases ltE o y x <;> simp
theorem cmpE_pos {o : Int} {x y : EN} : decide (cmpE o x y > 0) = ltE o y x := by
  unfold cmpE
  cases h : ltE o x y with
  | true => simp [ltE_asymm h]
  | false => simp only [Bool.false_eq_true, if_false]; cases h2 : ltE o y x <;> simp
def mx2 (o : Int) (e : EN) : Option EN → EN
  | some a => if ltE o e a then a else e
  | none => e
def mx3 (o : Int) (e : EN) (a b : Option EN) : EN := mx2 o (mx2 o e a) b
def eqO (o : Int) : Option EN → Option EN → Prop
  | none, none => True
  | some a, some b => eqE o a b
  | _, _ => False
theorem eqO.refl (o : Int) : ∀ a, eqO o a a
  | none => trivial
  | some a => eqE.refl o a
theorem mx2_congr {o : Int} {e e' : EN} {a a' : Option EN} (h : eqE o e e') (h2 : eqO o a a') : eqE o (mx2 o e a) (mx2 o e' a') := by
  cases a with
  | none => cases a' with
    | none => exact h
    | some _ => exact h2.elim
  | some a => cases a' with
    | none => exact h2.elim
    | some a' =>
      have h2 : eqE o a a' := h2
      unfold mx2
      dsimp only
      rw [h.lt_l, h2.lt_r]
      split
      · exact h2
      · exact h
theorem mx3_congr {o : Int} {e e' : EN} {a a' b b' : Option EN} (h : eqE o e e') (h2 : eqO o a a') (h3 : eqO o b b') : eqE o (mx3 o e a b) (mx3 o e' a' b') := mx2_congr (mx2_congr h h2) h3
def Tr.mx (o : Int) : Tr → Option EN
  | .nil => none
  | .node it _ l r => some (mx3 o it.E (l.mx o) (r.mx o))
def Fr.mx (o : Int) (f : Fr) (h : Option EN) : EN := if f.left then mx3 o f.it.E h (f.sib.mx o) else mx3 o f.it.E (f.sib.mx o) h
theorem Fr.mx_congr {o : Int} {f : Fr} {h h' : Option EN} (e : eqO o h h') : eqE o (f.mx o h) (f.mx o h') := by
  unfold Fr.mx
  split
  · exact mx3_congr (.refl ..) e (.refl ..)
  · exact mx3_congr (.refl ..) (.refl ..) e
theorem setC_inL {b : Bool} {t : Tr} : (t.setC b).inL = t.inL := by cases t <;> rfl
theorem setC_ref {b : Bool} {t : Tr} {sr : Nat} : (t.setC b).ref sr = t.ref sr := by cases t <;> rfl
def BH : Tr → Nat → Prop
  | .nil, n => n = 0
  | .node _ c l r, n => ∃ m, BH l m ∧ BH r m ∧ n = m + (if c then 0 else 1)
def NR : Tr → Prop
  | .nil => True
  | .node _ c l r => NR l ∧ NR r ∧ (c = true → l.red = false ∧ r.red = false)
def redP : List Fr → Bool
  | [] => false
  | f :: _ => f.c
def BC : List Fr → Nat → Prop
  | [], _ => True
  | f :: k, n => BH f.sib n ∧ BC k (n + if f.c then 0 else 1)
def NRC : List Fr → Prop
  | [] => True
  | f :: k => NR f.sib ∧ (f.c = true → f.sib.red = false ∧ redP k = false) ∧ NRC k
def rootB : List Fr → Prop
  | [] => True
  | [f] => f.c = false
  | _ :: k => rootB k
theorem bh_fill {f : Fr} {t : Tr} {n : Nat} (h1 : BH t n) (h2 : BH f.sib n) : BH (f.fill t) (n + if f.c then 0 else 1) := by
  unfold Fr.fill
  split
  · exact ⟨n, h1, h2, rfl⟩
  · exact ⟨n, h2, h1, rfl⟩
theorem bh_plug : ∀ (k : List Fr) (t : Tr) (n : Nat), BH t n → BC k n → ∃ m, BH (plug k t) m
  | [], t, n, h, _ => ⟨n, h⟩
  | f :: k, t, n, h, ⟨h1, h2⟩ => bh_plug k (f.fill t) _ (bh_fill h h1) h2
theorem nr_fill {f : Fr} {t : Tr} (h1 : NR t) (h2 : NR f.sib) (h3 : f.c = true → f.sib.red = false) (h4 : f.c = true → t.red = false) : NR (f.fill t) := by
  unfold Fr.fill
  split
  · exact ⟨h1, h2, fun h => ⟨h4 h, h3 h⟩⟩
  · exact ⟨h2, h1, fun h => ⟨h3 h, h4 h⟩⟩
theorem red_fill {f : Fr} {t : Tr} : (f.fill t).red = f.c := by
  unfold Fr.fill
  split <;> rfl
theorem nr_plug : ∀ (k : List Fr) (t : Tr), NR t → NRC k → (t.red = true → redP k = false) → NR (plug k t)
  | [], t, h, _, _ => h
  | f :: k, t, h, ⟨h1, h2, h3⟩, h4 => by
    refine nr_plug k (f.fill t) (nr_fill h h1 (fun e => (h2 e).1) (fun e => ?_)) h3 (fun e => ?_)
    · cases ht : t.red with
      | false => rfl
      | true => have h9 : f.c = false := h4 ht; rw [e] at h9; cases h9
    · rw [red_fill] at e; exact (h2 e).2
theorem bh_setC {b : Bool} {t : Tr} {n : Nat} (h : BH t n) : ∃ m, BH (t.setC b) m := by
  cases t with
  | nil => exact ⟨n, h⟩
  | node it c l r =>
    obtain ⟨m, h1, h2, h3⟩ := h
    exact ⟨_, m, h1, h2, rfl⟩
theorem nr_setC {t : Tr} (h : NR t) : NR (t.setC false) := by
  cases t with
  | nil => exact h
  | node it c l r => exact ⟨h.1, h.2.1, fun e => by cases e⟩
theorem red_setC {b : Bool} {t : Tr} (h : t.red = true) : (t.setC b).red = b := by
  cases t with
  | nil => cases h
  | node it c l r => rfl
def turnI (g f : Fr) (t : Tr) : Tr :=
  match g.left, f.left, t with
  | true, true, t => .node f.it false t (.node g.it true f.sib g.sib)
  | false, false, t => .node f.it false (.node g.it true g.sib f.sib) t
  | true, false, .node z _ zl zr => .node z false (.node f.it true f.sib zl) (.node g.it true zr g.sib)
  | false, true, .node z _ zl zr => .node z false (.node g.it true g.sib zl) (.node f.it true zr f.sib)
  | _, _, .nil => .nil
def fixI : List Fr → Tr → Tr
  | [], t => t
  | [f], t => f.fill t
  | f :: g :: k, t =>
    if f.c then
      if g.sib.red then fixI k (Fr.fill { g with c := true, sib := g.sib.setC false } (Fr.fill { f with c := false } t))
      else plug k (turnI g f t)
    else plug (f :: g :: k) t
structure FixPre (k : List Fr) (t : Tr) (n : Nat) : Prop where
  bh : BH t n
  bc : BC k n
  nr : NR t
  nrc : NRC k
  rd : t.red = true
  rb : rootB k
theorem rootB_tail2 {f : Fr} {k : List Fr} (h : rootB (f :: k)) : rootB k := by
  cases k with
  | nil => trivial
  | cons g k => exact h
theorem turnI_inL {g f : Fr} {t : Tr} (h : t.red = true) : (turnI g f t).inL = (g.fill (f.fill t)).inL := by
  cases t with
  | nil => cases h
  | node z c zl zr =>
    obtain ⟨gi, gc, gl, gs⟩ := g
    obtain ⟨fi, fc, fl, fs⟩ := f
    cases gl <;> cases fl <;> simp [turnI, Fr.fill, Tr.inL]
theorem turnI_bh {g f : Fr} {t : Tr} {n : Nat} (h : t.red = true) (hf : f.c = true) (hg : g.c = false) (h1 : BH t n) (h2 : BH f.sib n) (h3 : BH g.sib n) : BH (turnI g f t) (n + 1) := by
  cases t with
  | nil => cases h
  | node z c zl zr =>
    have hc : c = true := h
    subst hc
    obtain ⟨m, a, b, e⟩ := h1
    have e : n = m := e
    subst e
    obtain ⟨gi, gc, gl, gs⟩ := g
    obtain ⟨fi, fc, fl, fs⟩ := f
    cases gl <;> cases fl
    · exact ⟨n, ⟨n, h3, h2, rfl⟩, ⟨n, a, b, rfl⟩, rfl⟩
    · exact ⟨n, ⟨n, h3, a, rfl⟩, ⟨n, b, h2, rfl⟩, rfl⟩
    · exact ⟨n, ⟨n, h2, a, rfl⟩, ⟨n, b, h3, rfl⟩, rfl⟩
    · exact ⟨n, ⟨n, a, b, rfl⟩, ⟨n, h2, h3, rfl⟩, rfl⟩
theorem turnI_nr {g f : Fr} {t : Tr} (h : t.red = true) (h1 : NR t) (h2 : NR f.sib) (h3 : NR g.sib) (h4 : f.sib.red = false) (h5 : g.sib.red = false) : NR (turnI g f t) ∧ (turnI g f t).red = false := by
  cases t with
  | nil => cases h
  | node z c zl zr =>
    have hc : c = true := h
    subst hc
    obtain ⟨a, b, e⟩ := h1
    obtain ⟨e1, e2⟩ := e rfl
    obtain ⟨gi, gc, gl, gs⟩ := g
    obtain ⟨fi, fc, fl, fs⟩ := f
    refine ⟨?_, by cases gl <;> cases fl <;> rfl⟩
    cases gl <;> cases fl
    · exact ⟨⟨h3, h2, fun _ => ⟨h5, h4⟩⟩, ⟨a, b, e⟩, fun e => by cases e⟩
    · exact ⟨⟨h3, a, fun _ => ⟨h5, e1⟩⟩, ⟨b, h2, fun _ => ⟨e2, h4⟩⟩, fun e => by cases e⟩
    · exact ⟨⟨h2, a, fun _ => ⟨h4, e1⟩⟩, ⟨b, h3, fun _ => ⟨e2, h5⟩⟩, fun e => by cases e⟩
    · exact ⟨⟨a, b, e⟩, ⟨h2, h3, fun _ => ⟨h4, h5⟩⟩, fun e => by cases e⟩
theorem bh_black {t : Tr} {n : Nat} (h : t.red = true) (h1 : BH t n) : BH (t.setC false) (n + 1) := by
  cases t with
  | nil => cases h
  | node it c l r =>
    have hc : c = true := h
    subst hc
    obtain ⟨m, a, b, e⟩ := h1
    have e : n = m := e
    subst e
    exact ⟨n, a, b, rfl⟩
theorem fixI_ok : ∀ (N : Nat) (k : List Fr) (t : Tr) (n : Nat), k.length ≤ N → FixPre k t n → (fixI k t).inL = (plug k t).inL ∧ (∃ m, BH (fixI k t) m) ∧ NR (fixI k t) := by
  intro N
  induction N with
  | zero =>
    intro k t n hk P
    have : k = [] := List.eq_nil_of_length_eq_zero (by omega)
    subst this
    exact ⟨rfl, ⟨n, P.bh⟩, P.nr⟩
  | succ N ih =>
    intro k t n hk P
    match k, hk, P with
    | [], _, P => exact ⟨rfl, ⟨n, P.bh⟩, P.nr⟩
    | [f], _, P =>
      obtain ⟨p1, p2, p3, p4, p5, p6⟩ := P
      have hf : f.c = false := p6
      refine ⟨rfl, ⟨_, bh_fill p1 p2.1⟩, nr_fill p3 p4.1 (fun e => ?_) (fun e => ?_)⟩
      · rw [hf] at e; cases e
      · rw [hf] at e; cases e
    | f :: g :: k, hk, P =>
      obtain ⟨p1, p2, p3, p4, p5, p6⟩ := P
      unfold fixI
      cases hf : f.c with
      | false =>
        rw [if_neg (by simp)]
        refine ⟨rfl, bh_plug _ _ _ p1 p2, nr_plug _ _ p3 p4 (fun _ => hf)⟩
      | true =>
        rw [if_pos rfl]
        obtain ⟨b1, b2, b3⟩ := p2
        obtain ⟨n1, n2, n3, n4, n5⟩ := p4
        obtain ⟨n6, n7⟩ := n2 hf
        have hg : g.c = false := n7
        rw [hf] at b2 b3
        simp only [if_true, Nat.add_zero] at b2 b3
        rw [hg] at b3
        simp only [Bool.false_eq_true, if_false] at b3
        cases hu : g.sib.red with
        | true =>
          rw [if_pos rfl]
          have P2 : FixPre k (Fr.fill { g with c := true, sib := g.sib.setC false } (Fr.fill { f with c := false } t)) (n + 1) :=
            ⟨bh_fill (f := { g with c := true, sib := g.sib.setC false }) (bh_fill (f := { f with c := false }) p1 b1) (bh_black hu b2), b3,
              nr_fill (nr_fill p3 n1 (fun e => by cases e) (fun e => by cases e)) (nr_setC n3) (fun _ => red_setC hu) (fun _ => red_fill), n5, red_fill, rootB_tail2 (rootB_tail2 p6)⟩
          obtain ⟨q1, q2, q3⟩ := ih k _ (n + 1) (by simp at hk; omega) P2
          refine ⟨?_, q2, q3⟩
          rw [q1, inL_plug, plug, plug, inL_plug]
          simp only [inL_fill, setC_inL]
        | false =>
          rw [if_neg (by simp)]
          obtain ⟨r1, r2⟩ := turnI_nr (g := g) (f := f) p5 p3 n1 n3 n6 hu
          refine ⟨?_, bh_plug _ _ _ (turnI_bh p5 hf hg p1 b1 b2) b3, nr_plug _ _ r1 n5 (fun e => by rw [r2] at e; cases e)⟩
          rw [inL_plug, turnI_inL p5, plug, plug, inL_plug]
def goL (o : Int) (B E : EN) (it : It) : Bool := ltE o B it.B || (!ltE o it.B B && ltE o E it.E)
def path (o : Int) (B E : EN) : Tr → List Fr → List Fr
  | .nil, k => k
  | .node it c l r, k => if goL o B E it then path o B E l (⟨it, c, true, r⟩ :: k) else path o B E r (⟨it, c, false, l⟩ :: k)
theorem plug_path {o : Int} {B E : EN} : ∀ (t : Tr) (k : List Fr), plug (path o B E t k) .nil = plug k t
  | .nil, k => rfl
  | .node it c l r, k => by
    unfold path
    split
    · rw [plug_path l]; rfl
    · rw [plug_path r]; rfl
def ins (o : Int) (z : It) (T : Tr) : Tr := (fixI (path o z.B z.E T []) (.node z true .nil .nil)).setC false
def Srt (o : Int) (l : List It) : Prop := l.Pairwise fun x y => goL o y.B y.E x = false
def putI (o : Int) (z : It) : List It → List It
  | [] => [z]
  | x :: l => if goL o z.B z.E x then z :: x :: l else x :: putI o z l
theorem goL_trans {o : Int} {B E : EN} {x y : It} (h1 : goL o B E x = true) (h2 : goL o y.B y.E x = false) : goL o B E y = true := by
  unfold goL at *
  simp only [Bool.or_eq_true, Bool.and_eq_true, Bool.not_eq_true', Bool.or_eq_false_iff, Bool.and_eq_false_iff] at *
  obtain ⟨h2, h3⟩ := h2
  rcases h1 with h1 | ⟨h1, h4⟩
  · exact .inl (ltE_trans h1 h2)
  · cases hb : ltE o B y.B with
    | true => exact .inl rfl
    | false =>
      right
      have h5 : ltE o y.B B = false := by
        cases h6 : ltE o y.B B with
        | false => rfl
        | true => have := ltE_trans h6 h1; rw [h2] at this; cases this
      have h6 : ltE o x.B y.B = false := nlt_trans hb h1
      refine ⟨h5, ?_⟩
      rcases h3 with h3 | h3
      · simp at h3; rw [h6] at h3; cases h3
      · exact ltE_trans h4 h3
theorem goL_up {o : Int} {B E : EN} {x y : It} (h1 : goL o B E y = false) (h2 : goL o y.B y.E x = false) : goL o B E x = false := by
  cases h : goL o B E x with
  | false => rfl
  | true => have := goL_trans h h2; rw [h1] at this; cases this
theorem path_ok {o : Int} {B E : EN} : ∀ (t : Tr) (k : List Fr), Srt o (plug k t).inL → (∀ x ∈ preC k, goL o B E x = false) → (∀ x ∈ postC k, goL o B E x = true) →
    (∀ x ∈ preC (path o B E t k), goL o B E x = false) ∧ (∀ x ∈ postC (path o B E t k), goL o B E x = true)
  | .nil, k, _, h1, h2 => ⟨h1, h2⟩
  | .node it c l r, k, hs, h1, h2 => by
    have hs0 := hs
    rw [inL_plug] at hs
    unfold Srt at hs
    rw [List.pairwise_append] at hs
    obtain ⟨_, hs, _⟩ := hs
    rw [List.pairwise_append] at hs
    obtain ⟨hs, _, _⟩ := hs
    rw [Tr.inL, List.pairwise_append] at hs
    obtain ⟨_, hs2, hs3⟩ := hs
    rw [List.pairwise_cons] at hs2
    unfold path
    cases hg : goL o B E it with
    | true =>
      rw [if_pos rfl]
      refine path_ok l _ hs0 h1 ?_
      intro x hx
      unfold postC at hx
      simp only [if_true, List.mem_cons, List.mem_append] at hx
      rcases hx with rfl | hx | hx
      · exact hg
      · exact goL_trans hg (hs2.1 x hx)
      · exact h2 x hx
    | false =>
      rw [if_neg (by simp)]
      refine path_ok r _ hs0 ?_ h2
      intro x hx
      unfold preC at hx
      simp only [Bool.false_eq_true, if_false, List.mem_append, List.mem_cons, List.not_mem_nil, or_false] at hx
      rcases hx with hx | hx | rfl
      · exact h1 x hx
      · exact goL_up hg (hs3 x hx it (List.mem_cons_self ..))
      · exact hg
theorem putI_at {o : Int} {z : It} : ∀ {A C : List It}, (∀ x ∈ A, goL o z.B z.E x = false) → (∀ x ∈ C, goL o z.B z.E x = true) → putI o z (A ++ C) = A ++ z :: C
  | [], [], _, _ => rfl
  | [], x :: C, _, h => by rw [List.nil_append, putI, if_pos (h x (List.mem_cons_self ..))]; rfl
  | x :: A, C, h1, h2 => by
    rw [List.cons_append, putI, if_neg (by rw [h1 x (List.mem_cons_self ..)]; simp), putI_at (fun y hy => h1 y (List.mem_cons_of_mem _ hy)) h2]
    rfl
theorem path_pre {o : Int} {B E : EN} : ∀ (t : Tr) (k : List Fr) (n : Nat), BH t n → BC k n → NR t → NRC k → (t.red = true → redP k = false) → rootB k → (k = [] → t.red = false) →
    BC (path o B E t k) 0 ∧ NRC (path o B E t k) ∧ rootB (path o B E t k)
  | .nil, k, n, h1, h2, h3, h4, h5, h6, h7 => by
    have : n = 0 := h1
    subst this
    exact ⟨h2, h4, h6⟩
  | .node it c l r, k, n, h1, h2, h3, h4, h5, h6, h7 => by
    obtain ⟨m, a, b, rfl⟩ := h1
    obtain ⟨n1, n2, n3⟩ := h3
    have rb : ∀ f : Fr, f.c = c → rootB (f :: k) := by
      intro f hf
      cases k with
      | nil => exact hf.trans (h7 rfl)
      | cons g k => exact h6
    unfold path
    split
    · refine path_pre l _ m a ⟨b, h2⟩ n1 ⟨n2, fun e => ⟨(n3 e).2, h5 e⟩, h4⟩ (fun e => ?_) (rb _ rfl) (fun e => by cases e)
      show c = false
      cases hc : c with
      | false => rfl
      | true => have := (n3 hc).1; rw [e] at this; cases this
    · refine path_pre r _ m b ⟨a, h2⟩ n2 ⟨n1, fun e => ⟨(n3 e).1, h5 e⟩, h4⟩ (fun e => ?_) (rb _ rfl) (fun e => by cases e)
      show c = false
      cases hc : c with
      | false => rfl
      | true => have := (n3 hc).2; rw [e] at this; cases this
structure RB (T : Tr) : Prop where
  bh : ∃ n, BH T n
  nr : NR T
  rt : T.red = false
theorem RB.fixPre {T : Tr} (h : RB T) (o : Int) (z : It) : FixPre (path o z.B z.E T []) (.node z true .nil .nil) 0 := by
  obtain ⟨n, hn⟩ := h.bh
  obtain ⟨a, b, c⟩ := path_pre (o := o) (B := z.B) (E := z.E) T [] n hn trivial h.nr trivial (fun e => by rw [h.rt] at e; cases e) trivial (fun _ => h.rt)
  exact ⟨⟨0, rfl, rfl, rfl⟩, a, ⟨trivial, trivial, fun _ => ⟨rfl, rfl⟩⟩, b, rfl, c⟩
theorem ins_ok {o : Int} {z : It} {T : Tr} (h : RB T) (hs : Srt o T.inL) : RB (ins o z T) ∧ (ins o z T).inL = putI o z T.inL := by
  obtain ⟨a, ⟨m, b⟩, c⟩ := fixI_ok _ _ _ _ (Nat.le_refl _) (h.fixPre o z)
  refine ⟨⟨bh_setC b, nr_setC c, ?_⟩, ?_⟩
  · unfold ins; cases fixI (path o z.B z.E T []) (.node z true .nil .nil) <;> rfl
  · obtain ⟨p1, p2⟩ := path_ok (o := o) (B := z.B) (E := z.E) T [] hs (by intro x hx; cases hx) (by intro x hx; cases hx)
    have e := inL_plug (path o z.B z.E T []) .nil
    rw [plug_path] at e
    have e : T.inL = preC (path o z.B z.E T []) ++ postC (path o z.B z.E T []) := e
    unfold ins
    rw [setC_inL, a, inL_plug, e, putI_at p1 p2]
    rfl
theorem putI_mem {o : Int} {z x : It} : ∀ {l : List It}, x ∈ putI o z l ↔ x = z ∨ x ∈ l
  | [] => by simp [putI]
  | y :: l => by
    rw [putI]
    split
    · simp
    · simp only [List.mem_cons, putI_mem (l := l)]
      constructor
      · rintro (h | h | h)
        · exact .inr (.inl h)
        · exact .inl h
        · exact .inr (.inr h)
      · rintro (h | h | h)
        · exact .inr (.inl h)
        · exact .inl h
        · exact .inr (.inr h)
theorem goL_irr {o : Int} {x : It} : goL o x.B x.E x = false := by
  unfold goL
  rw [ltE_irrefl, ltE_irrefl]; rfl
theorem goL_asymm {o : Int} {x y : It} (h : goL o x.B x.E y = true) : goL o y.B y.E x = false := by
  cases h2 : goL o y.B y.E x with
  | false => rfl
  | true =>
    have := goL_trans (B := x.B) (E := x.E) (y := x) h (by
      cases h3 : goL o x.B x.E y with
      | false => rfl
      | true =>
        unfold goL at h h2
        simp only [Bool.or_eq_true, Bool.and_eq_true, Bool.not_eq_true'] at h h2
        rcases h with h | ⟨h, h4⟩
        · have h5 := ltE_asymm h
          rcases h2 with h2 | ⟨h2, h6⟩
          · rw [h5] at h2; cases h2
          · rw [h] at h2; cases h2
        · rcases h2 with h2 | ⟨h2, h6⟩
          · rw [h] at h2; cases h2
          · have := ltE_asymm h4; rw [h6] at this; cases this)
    rw [goL_irr] at this; cases this
theorem putI_srt {o : Int} {z : It} : ∀ {l : List It}, Srt o l → Srt o (putI o z l)
  | [], _ => by simp [putI, Srt]
  | x :: l, h => by
    unfold Srt at h ⊢
    rw [List.pairwise_cons] at h
    rw [putI]
    cases hg : goL o z.B z.E x with
    | true =>
      rw [if_pos rfl, List.pairwise_cons, List.pairwise_cons]
      refine ⟨fun y hy => ?_, h⟩
      rcases List.mem_cons.1 hy with rfl | hy
      · exact goL_asymm hg
      · exact goL_asymm (goL_trans hg (h.1 y hy))
    | false =>
      rw [if_neg (by simp), List.pairwise_cons]
      refine ⟨fun y hy => ?_, putI_srt h.2⟩
      rcases putI_mem.1 hy with rfl | hy
      · exact hg
      · exact h.1 y hy
end Go.Proofs.YtobolifgehagfaaGreat

set_option linter.unusedVariables false
set_option linter.unusedSimpArgs false
set_option linter.unnecessarySimpa false
namespace Go.Proofs.YtobolifgehagfaaGreat
open Go Go.Den Go.Proofs
def Tr.ht : Tr → Nat
  | .nil => 0
  | .node _ _ l r => (if l.ht < r.ht then r.ht else l.ht) + 1
def hitI (o : Int) (B E : EN) (it : It) : Bool := cmpE o B it.B == 0 && cmpE o E it.E == 0
def findT (o : Int) (B E : EN) : Tr → Tr
  | .nil => .nil
  | .node it c l r => if hitI o B E it then .node it c l r else if goL o B E it then findT o B E l else findT o B E r
theorem hit_goL {o : Int} {B E : EN} {it : It} (h : hitI o B E it = true) : goL o B E it = false ∧ ∀ x : It, goL o it.B it.E x = goL o B E x := by
  unfold hitI at h
  rw [Bool.and_eq_true, cmpE_eqE, cmpE_eqE] at h
  obtain ⟨h1, h2⟩ := h
  refine ⟨?_, fun x => ?_⟩
  · unfold goL; rw [h1.1, h1.2, h2.1]; rfl
  · unfold goL
    rw [h1.lt_l, h1.lt_r, h2.lt_l]
theorem findT_ok {o : Int} {B E : EN} : ∀ T : Tr, Srt o T.inL → (∀ it c l r, findT o B E T = .node it c l r → it ∈ T.inL ∧ hitI o B E it = true) ∧ (findT o B E T = .nil → ∀ x ∈ T.inL, hitI o B E x = false)
  | .nil, _ => ⟨fun _ _ _ _ h => by simp [findT] at h, fun _ x hx => by cases hx⟩
  | .node it c l r, hs => by
    unfold Srt at hs
    rw [Tr.inL, List.pairwise_append] at hs
    obtain ⟨s1, s2, s3⟩ := hs
    rw [List.pairwise_cons] at s2
    obtain ⟨a1, a2⟩ := findT_ok (B := B) (E := E) l s1
    obtain ⟨b1, b2⟩ := findT_ok (B := B) (E := E) r s2.2
    unfold findT
    cases hh : hitI o B E it with
    | true =>
      rw [if_pos rfl]
      refine ⟨fun it' c' l' r' h => ?_, fun h => by cases h⟩
      cases h
      exact ⟨by simp [Tr.inL], hh⟩
    | false =>
      rw [if_neg (by simp)]
      cases hg : goL o B E it with
      | true =>
        rw [if_pos rfl]
        refine ⟨fun it' c' l' r' h => ⟨by simp [Tr.inL, (a1 _ _ _ _ h).1], (a1 _ _ _ _ h).2⟩, fun h x hx => ?_⟩
        rw [Tr.inL] at hx
        rcases List.mem_append.1 hx with hx | hx
        · exact a2 h x hx
        · rcases List.mem_cons.1 hx with rfl | hx
          · exact hh
          · cases h9 : hitI o B E x with
            | false => rfl
            | true =>
              have := goL_trans hg (s2.1 x hx)
              rw [(hit_goL h9).1] at this; cases this
      | false =>
        rw [if_neg (by simp)]
        refine ⟨fun it' c' l' r' h => ⟨by simp [Tr.inL, (b1 _ _ _ _ h).1], (b1 _ _ _ _ h).2⟩, fun h x hx => ?_⟩
        rw [Tr.inL] at hx
        rcases List.mem_append.1 hx with hx | hx
        · cases h9 : hitI o B E x with
          | false => rfl
          | true =>
            -- it is not ahead of x; x hits; then (B, E) and it are alike
            have h10 := s3 x hx it (List.mem_cons_self ..)
            unfold hitI at h9
            rw [Bool.and_eq_true, cmpE_eqE, cmpE_eqE] at h9
            obtain ⟨h11, h12⟩ := h9
            unfold goL at h10 hg
            rw [← h11.lt_r, ← h11.lt_l, ← h12.lt_r] at h10
            simp only [Bool.or_eq_false_iff] at h10 hg
            rw [hg.1] at h10
            rw [h10.1] at hg
            have e1 : ltE o it.E E = false := by simpa using h10.2
            have e2 : ltE o E it.E = false := by simpa using hg.2
            unfold hitI at hh
            have : (cmpE o B it.B == 0 && cmpE o E it.E == 0) = true := by
              rw [Bool.and_eq_true, cmpE_eqE, cmpE_eqE]
              exact ⟨⟨hg.1, h10.1⟩, e2, e1⟩
            rw [hh] at this; cases this
        · rcases List.mem_cons.1 hx with rfl | hx
          · exact hh
          · exact b2 h x hx
def cmpI (o : Int) (b e b2 e2 : EN) : Int := if cmpE o b b2 < 0 ∧ cmpE o e b2 ≤ 0 then -1 else if 0 ≤ cmpE o b e2 then 1 else 0
def meetI (o : Int) (B E : EN) (it : It) : Bool := ltE o B it.E && ltE o it.B E
def vis (o : Int) (B E : EN) : Tr → List It
  | .nil => []
  | .node it c l r =>
    if cmpI o B E it.B it.E < 0 then vis o B E l
    else if 0 < cmpI o B E it.B it.E then (if cmpI o it.B (mx3 o it.E (l.mx o) (r.mx o)) B E = 0 then vis o B E l ++ vis o B E r else [])
    else vis o B E l ++ it :: vis o B E r
theorem cmpI_law {o : Int} {b e b2 e2 : EN} (h1 : ltE o b e = true) (h2 : ltE o b2 e2 = true) : cmpI o b e b2 e2 = if ltE o b e2 && ltE o b2 e then 0 else if ltE o b b2 || (!ltE o b2 b && ltE o e e2) then -1 else 1 := by
  have := spans_law (o := o) (s := ⟨b.1, e.1, false, b.2, e.2⟩) (t := ⟨b2.1, e2.1, false, b2.2, e2.2⟩) h1 h2
  exact this
theorem mx2_up {o : Int} {e : EN} {a : Option EN} : ltE o (mx2 o e a) e = false ∧ ∀ x, a = some x → ltE o (mx2 o e a) x = false := by
  cases a with
  | none => exact ⟨ltE_irrefl .., fun _ h => by cases h⟩
  | some a =>
    unfold mx2
    dsimp only
    cases h : ltE o e a with
    | true =>
      rw [if_pos rfl]
      exact ⟨ltE_asymm h, fun x hx => by cases hx; exact ltE_irrefl ..⟩
    | false =>
      rw [if_neg (by simp)]
      exact ⟨ltE_irrefl .., fun x hx => by cases hx; exact h⟩
theorem mx3_up {o : Int} {e : EN} {a b : Option EN} : ltE o (mx3 o e a b) e = false ∧ (∀ x, a = some x → ltE o (mx3 o e a b) x = false) ∧ (∀ x, b = some x → ltE o (mx3 o e a b) x = false) := by
  have h1 := mx2_up (o := o) (e := mx2 o e a) (a := b)
  have h2 := mx2_up (o := o) (e := e) (a := a)
  refine ⟨nlt_trans h2.1 h1.1, fun x hx => nlt_trans (h2.2 x hx) h1.1, h1.2⟩
theorem mx_up {o : Int} : ∀ (T : Tr) (m : EN), T.mx o = some m → ∀ x ∈ T.inL, ltE o m x.E = false
  | .nil, m, h, x, hx => by cases hx
  | .node it c l r, m, h, x, hx => by
    have h : mx3 o it.E (l.mx o) (r.mx o) = m := by simpa [Tr.mx] using h
    subst h
    obtain ⟨u1, u2, u3⟩ := mx3_up (o := o) (e := it.E) (a := l.mx o) (b := r.mx o)
    rw [Tr.inL] at hx
    rcases List.mem_append.1 hx with hx | hx
    · cases hl : l.mx o with
      | none => cases l with
        | nil => cases hx
        | node _ _ _ _ => simp [Tr.mx] at hl
      | some a => rw [← hl]; exact nlt_trans (mx_up l a hl x hx) (u2 a hl)
    · rcases List.mem_cons.1 hx with rfl | hx
      · exact u1
      · cases hr : r.mx o with
        | none => cases r with
          | nil => cases hx
          | node _ _ _ _ => simp [Tr.mx] at hr
        | some a => rw [← hr]; exact nlt_trans (mx_up r a hr x hx) (u3 a hr)
theorem filter_none {α : Type} {p : α → Bool} {l : List α} (h : ∀ x ∈ l, p x = false) : l.filter p = [] := by
  rw [List.filter_eq_nil_iff]
  intro x hx
  rw [h x hx]; simp
theorem vis_ok {o : Int} {B E : EN} (hp : ltE o B E = true) : ∀ T : Tr, Srt o T.inL → (∀ x ∈ T.inL, ltE o x.B x.E = true) → vis o B E T = T.inL.filter (meetI o B E)
  | .nil, _, _ => rfl
  | .node it c l r, hs, hx => by
    have hs0 := hs
    unfold Srt at hs
    rw [Tr.inL, List.pairwise_append] at hs
    obtain ⟨s1, s2, s3⟩ := hs
    rw [List.pairwise_cons] at s2
    have el := vis_ok hp l s1 (fun x h => hx x (by simp [Tr.inL, h]))
    have er := vis_ok hp r s2.2 (fun x h => hx x (by simp [Tr.inL, h]))
    have hi := hx it (by simp [Tr.inL])
    unfold vis
    rw [el, er, cmpI_law hp hi, Tr.inL, List.filter_append, List.filter_cons]
    cases hm : meetI o B E it with
    | true =>
      have hm' : (ltE o B it.E && ltE o it.B E) = true := hm
      rw [hm']; simp
    | false =>
      have hm' : (ltE o B it.E && ltE o it.B E) = false := hm
      rw [hm']
      simp only [Bool.false_eq_true, if_false]
      cases ha : ltE o B it.B || (!ltE o it.B B && ltE o E it.E) with
      | true =>
        simp only [if_true]
        rw [if_pos (by omega)]
        rw [filter_none (l := r.inL) (fun x h => ?_), List.append_nil]
        -- B < it.E: as it is not met, E ≤ it.B
        have h1 : ltE o B it.E = true := by
          simp only [Bool.or_eq_true, Bool.and_eq_true, Bool.not_eq_true'] at ha
          rcases ha with ha | ⟨ha, hb⟩
          · exact ltE_trans ha (ltE_asymm hi)
          · exact ltE_trans hp (ltE_asymm hb)
        rw [h1, Bool.true_and] at hm'
        have h2 : ltE o x.B it.B = false := by
          have := s2.1 x h
          unfold goL at this
          simp only [Bool.or_eq_false_iff] at this
          exact this.1
        unfold meetI
        rw [nlt_trans hm' h2, Bool.and_false]
      | false =>
        simp only [Bool.false_eq_true, if_false]
        rw [if_neg (by omega), if_pos (by omega)]
        -- B ≥ it.E
        have h1 : ltE o B it.E = false := by
          cases h : ltE o B it.E with
          | false => rfl
          | true =>
            rw [h, Bool.true_and] at hm'
            have : ltE o B it.B = true := ltE_trans hp hm'
            rw [this] at ha; simp at ha
        split
        · rfl
        · rename_i hc
          rw [filter_none (l := l.inL), filter_none (l := r.inL)]
          · rfl
          all_goals
            intro x h
            have hup := mx_up (o := o) (.node it c l r) _ rfl x (by simp [Tr.inL, h])
            have hpm : ltE o it.B (mx3 o it.E (l.mx o) (r.mx o)) = true := ltE_trans hi (mx3_up (o := o)).1
            rw [cmpI_law hpm hp] at hc
            have hle : ltE o B (mx3 o it.E (l.mx o) (r.mx o)) = false := by
              cases h9 : ltE o B (mx3 o it.E (l.mx o) (r.mx o)) with
              | false => rfl
              | true =>
                exfalso
                apply hc
                rw [h9]
                have : ltE o it.B E = true := ltE_trans (ltE_trans hi h1) (ltE_asymm hp)
                rw [this]; rfl
            unfold meetI
            rw [nlt_trans hup hle, Bool.false_and]
end Go.Proofs.YtobolifgehagfaaGreat

set_option linter.unusedVariables false
set_option linter.unusedSimpArgs false
set_option linter.unnecessarySimpa false
namespace Go.Proofs.YtobolifgehagfaaGreat
open Go Go.Den Go.Proofs
def foldV {σ : Type} (f : σ → It → σ × Bool) : σ → List It → σ × Bool
  | s, [] => (s, true)
  | s, x :: l => if (f s x).2 then foldV f (f s x).1 l else ((f s x).1, false)
end Go.Proofs.YtobolifgehagfaaGreat

set_option linter.unusedVariables false
set_option linter.unusedSimpArgs false
set_option linter.unnecessarySimpa false
namespace Go.Proofs.YtobolifgehagfaaGreat
open Go Go.Den Go.Proofs
theorem nilV_of {i : IV} {k : Value → Prop} (h : ∃ t x, i = .mk t x) (hk : k i.v) : nilV Tryz.prog i.v k := by
  obtain ⟨t, x, rfl⟩ := h
  exact hk
inductive IsE (H : Heap) : Int → IV → EN → Prop
  | aff {x : EN} : IsE H 1 (.mk 181 (.string x.1)) x
theorem IsE.ext {H H1 : Heap} {o : Int} {i : IV} {x : EN} (h : IsE H o i x) (e : ExtH H H1) : IsE H1 o i x := by
  cases h with
  | aff => exact .aff
theorem IsE.mk {H : Heap} {o : Int} {i : IV} {x : EN} (h : IsE H o i x) : ∃ t v, i = .mk t v := by cases h <;> exact ⟨_, _, rfl⟩
section
variable {H : Heap}
theorem aff_eq {o : Int} (ho : o = 1 ∨ o = 2) {x y : EN} : cmpE o x y = if x.1.size = 0 then (if y.1.size = 0 then 0 else 1) else if y.1.size = 0 then -1 else if ltS x.1 y.1 then -1 else if ltS y.1 x.1 then 1 else 0 := by
  have h3 : ¬ o = 3 := by omega
  have h0 : o ≠ 0 := by omega
  have L : ∀ u v : EN, ltE o u v = if ¬ (u.1.size = 0 ↔ v.1.size = 0) then decide (v.1.size = 0) else ltS u.1 v.1 := by
    intro u v
    unfold ltE
    rw [if_neg h3]
    by_cases h : (u.1.size = 0 ↔ v.1.size = 0)
    · rw [if_neg (fun e => e.2 h), if_neg (fun e => e h)]
    · rw [if_pos ⟨h0, h⟩, if_pos h]
  unfold cmpE
  rw [L, L]
  by_cases hx : x.1.size = 0 <;> by_cases hy : y.1.size = 0
  · simp [hx, hy, ltS_nil _ hx, ltS_nil _ hy]
  · simp [hx, hy]
  · simp [hx, hy]
  · simp [hx, hy]
theorem cmpAff {x y : EN} : CallsH Tryz.prog 144 ⟨[.string x.1, .iface 181 (.string y.1)]⟩ H (Gives (.int .i64 (cmpE 1 x y)) H) := by
  have S := Sat.start H
  rw [aff_eq (.inl rfl)]
  refine F144.calls (c := .mk 181 (.string y.1)) ?_
  unfold F144.go
  (repeat (first | (refine Step.go ?_; intros) | refine iteB_t (by decide) ?_ | refine iteB_f (by decide) ?_ | (refine Duo.mk (by first | omega | exact rfl | decide) ?_; intros) | (refine Duo.mk (Clo.mk (by kernel_rfl)) ?_; intros)))
  refine iteB_i (fun h => ?_) (fun h => ?_)
  · have h := eq_of_beq h
    rw [if_pos (by omega)]
    refine iteB_i (fun h => ?_) (fun h => ?_)
    · have h := eq_of_beq h
      rw [if_pos (by omega)]; exact ⟨rfl, ExtH.refl H⟩
    · have h : ¬ (y.1.size : Int) = 0 := by simpa using h
      rw [if_neg (by omega)]; exact ⟨rfl, ExtH.refl H⟩
  have h : ¬ (x.1.size : Int) = 0 := by simpa using h
  rw [if_neg (by omega)]
  refine iteB_i (fun h => ?_) (fun h => ?_)
  · have h := eq_of_beq h
    rw [if_pos (by omega)]; exact ⟨rfl, ExtH.refl H⟩
  have h : ¬ (y.1.size : Int) = 0 := by simpa using h
  rw [if_neg (by omega)]
  refine iteB_i (fun h => ?_) (fun h => ?_)
  · rw [if_pos h]; exact ⟨rfl, ExtH.refl H⟩
  · rw [if_neg (by rw [h]; simp), ltS_flip]
    refine iteB_i (fun h => ?_) (fun h => ?_)
    · rw [if_pos h]; exact ⟨rfl, ExtH.refl H⟩
    · rw [if_neg (by rw [h]; simp)]; exact ⟨rfl, ExtH.refl H⟩
theorem cmp_i {o : Int} {i j : IV} {x y : EN} {l : List HP} {Q : List PanicEntry → Heap → Prop} {K : Value → Heap → Prop} (hi : IsE H o i x) (hj : IsE H o j y) (S : Sat H l) (k : ∀ H1, ExtH H H1 → Sat H1 l → K (.int .i64 (cmpE o x y)) H1) : callI Tryz.prog i.v "Compare" [j.v] H Q K := by
  cases hi with
  | aff =>
    cases hj with
    | aff => exact callI_val (f := 144) (by kernel_rfl) (by kernel_rfl) (by kernel_rfl) (gives_i S cmpAff k)
end
end Go.Proofs.YtobolifgehagfaaGreat

set_option linter.unusedVariables false
set_option linter.unusedSimpArgs false
set_option linter.unnecessarySimpa false
namespace Go.Proofs.YtobolifgehagfaaGreat
open Go Go.Den Go.Proofs
theorem Sat.later {H H1 : Heap} {l : List HP} (S : Sat H l) (e : ExtH H H1) : Sat H1 l := by
  have h := Sat.onto (m := []) ((Sat.start H1).to (fun k x => by
    obtain ⟨g, a, b, c⟩ := x
    exact ⟨g, fun i o h => a i o (e.block_some h), b, c⟩)) S
  rwa [List.nil_append] at h
section
variable {H : Heap}
theorem mkAff (b e : ByteArray) : CallsH Tryz.prog 64 ⟨[.string b, .string e]⟩ H (Gives (.agg ⟨[.iface 181 (.string b), .iface 181 (.string e)]⟩) H) := by
  have S := Sat.start H
  refine F64.calls ?_
  unfold F64.go
  (repeat (first | (refine Step.go ?_; intros) | refine iteB_t (by decide) ?_ | refine iteB_f (by decide) ?_ | (refine Duo.mk (by first | omega | exact rfl | decide) ?_; intros) | (refine Duo.mk (Clo.mk (by kernel_rfl)) ?_; intros)))
  exact ⟨rfl, Sat.grown⟩
theorem mkAffP {b : ByteArray} (hb : b.size ≤ 140737488351232) : CallsH Tryz.prog 67 ⟨[.string b]⟩ H (Gives (.agg ⟨[.iface 181 (.string b), .iface 181 (.string (b ++ ⟨#[0]⟩))]⟩) H) := by
  have S := Sat.start H
  refine F67.calls ?_
  unfold F67.go
  (repeat (first | (refine Step.go ?_; intros) | refine iteB_t (by decide) ?_ | refine iteB_f (by decide) ?_ | (refine Duo.mk (by first | omega | exact rfl | decide) ?_; intros) | (refine Duo.mk (Clo.mk (by kernel_rfl)) ?_; intros)))
  rename_i r H1 S1
  refine ⟨by show ((b.size + 1 : Nat) : Int) ≤ 9223372036854775807; omega, ?_⟩
  refine gives_i S1 (mkAff _ _) ?_
  intro H2 E2 S2
  (repeat (first | (refine Step.go ?_; intros) | refine iteB_t (by decide) ?_ | refine iteB_f (by decide) ?_ | (refine Duo.mk (by first | omega | exact rfl | decide) ?_; intros) | (refine Duo.mk (Clo.mk (by kernel_rfl)) ?_; intros)))
  exact ⟨rfl, Sat.grown⟩
end
end Go.Proofs.YtobolifgehagfaaGreat

set_option linter.unusedVariables false
set_option linter.unusedSimpArgs false
set_option linter.unnecessarySimpa false
namespace Go.Proofs.YtobolifgehagfaaGreat
open Go Go.Den Go.Proofs
def IsG (g : PH) (o : Int) (i : IV) (x : EN) : Prop := ∀ H : Heap, PH.sub g (PH.of H) → IsE H o i x
theorem IsG.mono {g g' : PH} {o : Int} {i : IV} {x : EN} (h : IsG g o i x) (s : PH.sub g g') : IsG g' o i x := fun H hs => h H (s.trans hs)
def OkI (g : PH) (o : Int) (it : It) : Prop := IsG g o it.i it.B ∧ IsG g o it.j it.E
theorem OkI.mono {g g' : PH} {o : Int} {it : It} (h : OkI g o it) (s : PH.sub g g') : OkI g' o it := ⟨h.1.mono s, h.2.mono s⟩
def IsM (g : PH) (o : Int) (m : IV) (M : EN) : Prop := ∃ M', IsG g o m M' ∧ eqE o M' M
theorem IsM.mono {g g' : PH} {o : Int} {m : IV} {M : EN} (h : IsM g o m M) (s : PH.sub g g') : IsM g' o m M := let ⟨a, b, c⟩ := h; ⟨a, b.mono s, c⟩
theorem IsM.congr {g : PH} {o : Int} {m : IV} {M N : EN} (h : IsM g o m M) (e : eqE o M N) : IsM g o m N := let ⟨a, b, c⟩ := h; ⟨a, b, c.trans e⟩
theorem IsG.isM {g : PH} {o : Int} {m : IV} {M : EN} (h : IsG g o m M) : IsM g o m M := ⟨M, h, .refl ..⟩
def colI (c : Bool) : Int := if c then 1 else 0
abbrev ndO (it : It) (m : IV) (l r p : Nat) (c : Bool) : Obj := .cells ⟨[it.i.v, it.j.v, it.v.v, m.v, pA l, pA r, pA p, .int .i64 (colI c)]⟩ 146
abbrev senO : Obj := .cells ⟨[.nilIface, .nilIface, .nilIface, .nilIface, .pointer none, .pointer none, .pointer none, .int .i64 0]⟩ 146
abbrev treO (root : Nat) (n : Int) (sr : Nat) : Obj := .cells ⟨[pA root, .int .i64 n, pA sr]⟩ 149
def nd (g : PH) (o : Int) (sr : Nat) (it : It) (M : EN) (l r p : Nat) (c : Bool) : HP := ex fun m : IV => star [lift (OkI g o it ∧ it.r ≠ sr ∧ IsM g o m M), pt it.r (ndO it m l r p c)]
def tr (g : PH) (o : Int) (sr : Nat) : Nat → Tr → HP
  | _, .nil => star []
  | p, .node it c l r => star [nd g o sr it (mx3 o it.E (l.mx o) (r.mx o)) (l.ref sr) (r.ref sr) p c, tr g o sr it.r l, tr g o sr it.r r]
def cx (g : PH) (o : Int) (sr : Nat) : Nat → Option EN → List Fr → HP
  | _, _, [] => star []
  | h, e, f :: k => star [nd g o sr f.it (f.mx o e) (if f.left then h else f.sib.ref sr) (if f.left then f.sib.ref sr else h) (par sr k) f.c, tr g o sr f.it.r f.sib, cx g o sr f.it.r (some (f.mx o e)) k]
section
variable {H : Heap} {l m : List HP} {g : PH} {o : Int} {sr b : Nat}
theorem nd_congr {it : It} {M N : EN} {x y p : Nat} {c : Bool} (e : eqE o M N) : Ent (nd g o sr it M x y p c :: l) (nd g o sr it N x y p c :: l) := by
  refine Ent.exL fun m => Ent.ex m ?_
  refine Ent.starL (Ent.star ?_)
  refine Ent.liftL fun h => Ent.lift ⟨h.1, h.2.1, h.2.2.congr e⟩ .refl
theorem cx_congr : ∀ (k : List Fr) {h : Nat} {e e' : Option EN} {l : List HP}, eqO o e e' → Ent (cx g o sr h e k :: l) (cx g o sr h e' k :: l)
  | [], _, _, _, _, _ => Ent.refl
  | f :: k, h, e, e', l, q => by
    unfold cx
    refine Ent.starL (Ent.star ?_)
    have q1 := Fr.mx_congr (f := f) q
    refine Ent.trans (nd_congr q1) (Ent.cons (Ent.cons ?_))
    exact cx_congr k q1
theorem nd_open {it : It} {M : EN} {x y p : Nat} {c : Bool} (S : Sat H (nd g o sr it M x y p c :: l)) : ∃ m, OkI g o it ∧ it.r ≠ sr ∧ IsM g o m M ∧ Sat H (pt it.r (ndO it m x y p c) :: l) := by
  obtain ⟨m, S⟩ := S.ex
  obtain ⟨h, S⟩ := S.star.lift
  exact ⟨m, h.1, h.2.1, h.2.2, S⟩
theorem nd_close {it : It} {M : EN} {x y p : Nat} {c : Bool} {m : IV} (h1 : OkI g o it) (h2 : it.r ≠ sr) (h3 : IsM g o m M) : Ent (pt it.r (ndO it m x y p c) :: l) (nd g o sr it M x y p c :: l) :=
  Ent.ex m (Ent.star (Ent.lift ⟨h1, h2, h3⟩ .refl))
theorem tr_open {it : It} {p : Nat} {c : Bool} {t u : Tr} (S : Sat H (tr g o sr p (.node it c t u) :: l)) : ∃ m, OkI g o it ∧ it.r ≠ sr ∧ IsM g o m (mx3 o it.E (t.mx o) (u.mx o)) ∧ Sat H (pt it.r (ndO it m (t.ref sr) (u.ref sr) p c) :: tr g o sr it.r t :: tr g o sr it.r u :: l) := nd_open S.star
theorem tr_close {it : It} {p : Nat} {c : Bool} {t u : Tr} {m : IV} (h1 : OkI g o it) (h2 : it.r ≠ sr) (h3 : IsM g o m (mx3 o it.E (t.mx o) (u.mx o))) : Ent (pt it.r (ndO it m (t.ref sr) (u.ref sr) p c) :: tr g o sr it.r t :: tr g o sr it.r u :: l) (tr g o sr p (.node it c t u) :: l) :=
  Ent.star (nd_close h1 h2 h3)
theorem tr_nil {p : Nat} : Ent (tr g o sr p .nil :: l) l := Ent.starL .refl
theorem tr_mknil {p : Nat} : Ent l (tr g o sr p .nil :: l) := Ent.star .refl
def CellI (l : List HP) (b j : Nat) (v : Value) : Prop := ∀ k, SatP k l → ∃ cs T, k b = some (.cells ⟨cs⟩ T) ∧ cs[j]? = some v
theorem CellI.there {c : HP} {j : Nat} {v : Value} (h : CellI l b j v) : CellI (c :: l) b j v := fun k x => h k x.tail
theorem CellI.here {cs : List Value} {T : TypeId} {j : Nat} {v : Value} (h : cs[j]? = some v) : CellI (pt b (.cells ⟨cs⟩ T) :: l) b j v := fun k x => by
  obtain ⟨h', h1, h2, _⟩ := x
  exact ⟨cs, T, h2 _ _ h1, h⟩
theorem CellI.get {j : Nat} {v : Value} (h : CellI l b j v) (S : Sat H l) : hcell H ⟨b, j, none⟩ = some v := by
  obtain ⟨cs, T, h1, h2⟩ := h _ S.out
  exact hcell_of h1 h2
def Kid (g : PH) (o : Int) (sr : Nat) (l : List HP) (b : Nat) : Option EN → Prop
  | none => b = sr
  | some e => ∀ k, SatP k l → b ≠ sr ∧ ∃ i cs T, IsM g o i e ∧ k b = some (.cells ⟨cs⟩ T) ∧ cs[3]? = some (IV.v i)
theorem Kid.there {c : HP} : ∀ {e : Option EN}, Kid g o sr l b e → Kid g o sr (c :: l) b e
  | none, h => h
  | some e, h => fun k x => h k x.tail
theorem Kid.to {m : List HP} (e : Ent m l) : ∀ {x : Option EN}, Kid g o sr l b x → Kid g o sr m b x
  | none, h => h
  | some _, h => fun k x => h k (e k x)
theorem Kid.here {cs : List Value} {T : TypeId} {i : IV} {e : EN} (h : cs[3]? = some (IV.v i)) (hi : IsM g o i e) (hb : b ≠ sr) : Kid g o sr (pt b (.cells ⟨cs⟩ T) :: l) b (some e) := fun k x => by
  obtain ⟨h', h1, h2, _⟩ := x
  exact ⟨hb, i, cs, T, hi, h2 _ _ h1, h⟩
theorem kid_tr : ∀ (t : Tr) {p : Nat}, Kid g o sr (tr g o sr p t :: l) (t.ref sr) (t.mx o)
  | .nil, _ => rfl
  | .node it c t u, p => fun k x => by
    have x := SatP.star_iff.1 x
    obtain ⟨m, x⟩ := SatP.ex_iff.1 x
    obtain ⟨h, x⟩ := SatP.lift_iff.1 (SatP.star_iff.1 x)
    obtain ⟨h', h1, h2, _⟩ := x
    exact ⟨h.2.1, m, _, _, h.2.2, h2 _ _ h1, rfl⟩
theorem Kid.get {e : EN} (h : Kid g o sr l b (some e)) (S : Sat H l) : b ≠ sr ∧ ∃ i cs T, IsM g o i e ∧ H[b]? = some (.cells ⟨cs⟩ T) ∧ cs[3]? = some (IV.v i) := h _ S.out
theorem cmpG {i j : IV} {x y : EN} {Q : List PanicEntry → Heap → Prop} {K : Value → Heap → Prop} (S : Sat H l) [G : HasG l g] (hi : IsG g o i x) (hj : IsG g o j y) (k : ∀ H1, Sat H1 l → K (.int .i64 (cmpE o x y)) H1) : callI Tryz.prog i.v "Compare" [j.v] H Q K :=
  cmp_i (hi H (G.sub S)) (hj H (G.sub S)) S fun H1 _ S1 => k H1 S1
instance {i : IV} {X : Prop} : Step (guardB (isCell i.v) X) X := ⟨fun h => by rw [isCell_IV]; exact h⟩
theorem pq_same {a : Addr} {k : Bool → Prop} (h : k true) : pqD H (some a) (some a) k := by
  refine .inl ⟨rfl, ?_⟩
  have e : (a == a) = true := by simp
  rw [e]
  exact h
theorem pq_ne {a b : Nat} {ca cb : Array Value} {Ta Tb : TypeId} {za zb : Nat} {k : Bool → Prop} (hn : a ≠ b) (ha : H[a]? = some (.cells ca Ta (za, za))) (hb : H[b]? = some (.cells cb Tb (zb, zb))) (h : k false) : pqD H (some ⟨a, 0, none⟩) (some ⟨b, 0, none⟩) k :=
  .inr ⟨hn, ⟨_, _, _, ha⟩, ⟨_, _, _, hb⟩, h⟩
theorem updM_step {k : List Fr} {it : It} {c : Bool} {M : EN} {m : IV} {x y : Nat} {mx my : Option EN} {R : Ending → Heap → Prop}
    (S : Sat H (pt it.r (ndO it m x y (par sr k) c) :: cx g o sr it.r (some M) k :: pt sr senO :: has g :: l)) (hO : OkI g o it) (hne : it.r ≠ sr) (hm : IsM g o m M) (kx : Kid g o sr l x mx) (ky : Kid g o sr l y my)
    (stop : ∀ H1, eqE o M (mx3 o it.E mx my) → Sat H1 (pt it.r (ndO it m x y (par sr k) c) :: cx g o sr it.r (some M) k :: pt sr senO :: has g :: l) → R (.returned (.tuple ⟨[]⟩)) H1)
    (rec : ∀ m' H1, IsM g o m' (mx3 o it.E mx my) → Sat H1 (pt it.r (ndO it m' x y (par sr k) c) :: cx g o sr it.r (some M) k :: pt sr senO :: has g :: l) → F118.L0 (some (aA (par sr k))) (some (aA sr)) H1 R) :
    F118.L0 (some (aA it.r)) (some (aA sr)) H R := by
  have l4 : ∀ (H : Heap) (i : IV), IsM g o i (mx3 o it.E mx my) → Sat H (pt it.r (ndO it m x y (par sr k) c) :: cx g o sr it.r (some M) k :: pt sr senO :: has g :: l) → F118.L4 (some (aA it.r)) (some (aA sr)) m i H R := by
    rintro H i ⟨N, hi, hN⟩ S
    obtain ⟨M', hm1, hm2⟩ := hm
    refine F118.L4_step ?_
    unfold F118.L4n
    refine cmpG S hm1 hi fun H1 S1 => ?_
    (repeat (first | (refine Step.go ?_; intros) | refine iteB_t (by decide) ?_ | refine iteB_f (by decide) ?_ | (refine Duo.mk (by first | omega | exact rfl | decide) ?_; intros) | (refine Duo.mk (Clo.mk (by kernel_rfl)) ?_; intros)))
    refine iteB_i (fun h => ?_) (fun h => ?_)
    · have h := cmpE_eqE.1 h
      exact stop H1 (hm2.symm.trans (h.trans hN)) S1
    · (repeat (first | (refine Step.go ?_; intros) | refine iteB_t (by decide) ?_ | refine iteB_f (by decide) ?_ | (refine Duo.mk (by first | omega | exact rfl | decide) ?_; intros) | (refine Duo.mk (Clo.mk (by kernel_rfl)) ?_; intros)))
      exact rec i _ ⟨N, hi, hN⟩ (by assumption)
  have l2 : ∀ (H : Heap) (i : IV), IsM g o i (mx2 o it.E mx) → Sat H (pt it.r (ndO it m x y (par sr k) c) :: cx g o sr it.r (some M) k :: pt sr senO :: has g :: l) → F118.L2 (some (aA it.r)) (some (aA sr)) m i H R := by
    rintro H i ⟨N, hi, hN⟩ S
    refine F118.L2_step ?_
    unfold F118.L2n
    (repeat (first | (refine Step.go ?_; intros) | refine iteB_t (by decide) ?_ | refine iteB_f (by decide) ?_ | (refine Duo.mk (by first | omega | exact rfl | decide) ?_; intros) | (refine Duo.mk (Clo.mk (by kernel_rfl)) ?_; intros)))
    cases my with
    | none =>
      obtain rfl : y = sr := ky
      refine pq_same ?_
      (repeat (first | (refine Step.go ?_; intros) | refine iteB_t (by decide) ?_ | refine iteB_f (by decide) ?_ | (refine Duo.mk (by first | omega | exact rfl | decide) ?_; intros) | (refine Duo.mk (Clo.mk (by kernel_rfl)) ?_; intros)))
      exact l4 H i ⟨N, hi, hN⟩ S
    | some e =>
      obtain ⟨hy, j, cs, T, ⟨J, hj, hJ⟩, hb, hc⟩ := Kid.get (ky.there.there.there.there) S
      refine pq_ne hy hb (S.at_ (r := sr) (o := senO) (by simp)) ?_
      (repeat (first | (refine Step.go ?_; intros) | refine iteB_t (by decide) ?_ | refine iteB_f (by decide) ?_ | (refine Duo.mk (by first | omega | exact rfl | decide) ?_; intros) | (refine Duo.mk (Clo.mk (by kernel_rfl)) ?_; intros)))
      refine ⟨j, hcell_of hb hc, ?_⟩
      refine cmpG S hj hi fun H1 S1 => ?_
      (repeat (first | (refine Step.go ?_; intros) | refine iteB_t (by decide) ?_ | refine iteB_f (by decide) ?_ | (refine Duo.mk (by first | omega | exact rfl | decide) ?_; intros) | (refine Duo.mk (Clo.mk (by kernel_rfl)) ?_; intros)))
      rw [cmpE_pos]
      have hlt : ltE o N J = ltE o (mx2 o it.E mx) e := by rw [hN.lt_l, hJ.lt_r]
      obtain ⟨_, j1, cs1, T1, ⟨J1, hj1, hJ1⟩, hb1, hc1⟩ := Kid.get (ky.there.there.there.there) S1
      refine iteB_i (fun h => ?_) (fun h => ?_)
      · rw [hlt] at h
        refine F118.L3_step ?_
        unfold F118.L3n
        (repeat (first | (refine Step.go ?_; intros) | refine iteB_t (by decide) ?_ | refine iteB_f (by decide) ?_ | (refine Duo.mk (by first | omega | exact rfl | decide) ?_; intros) | (refine Duo.mk (Clo.mk (by kernel_rfl)) ?_; intros)))
        refine ⟨j1, hcell_of hb1 hc1, ?_⟩
        refine l4 H1 j1 ⟨J1, hj1, hJ1.trans ?_⟩ S1
        show eqE o e (mx3 o it.E mx (some e))
        unfold mx3
        rw [show mx2 o (mx2 o it.E mx) (some e) = e from if_pos h]
        exact .refl ..
      · rw [hlt] at h
        refine l4 H1 i ⟨N, hi, ?_⟩ S1
        unfold mx3
        rw [show mx2 o (mx2 o it.E mx) (some e) = mx2 o it.E mx from if_neg (by rw [h]; simp)]
        exact hN
  refine F118.L0_step ?_
  unfold F118.L0n
  refine pq_ne hne (S.at_ (r := it.r) (o := ndO it m x y (par sr k) c) (by simp)) (S.at_ (r := sr) (o := senO) (by simp)) ?_
  (repeat (first | (refine Step.go ?_; intros) | refine iteB_t (by decide) ?_ | refine iteB_f (by decide) ?_ | (refine Duo.mk (by first | omega | exact rfl | decide) ?_; intros) | (refine Duo.mk (Clo.mk (by kernel_rfl)) ?_; intros)))
  cases mx with
  | none =>
    obtain rfl : x = sr := kx
    refine pq_same ?_
    (repeat (first | (refine Step.go ?_; intros) | refine iteB_t (by decide) ?_ | refine iteB_f (by decide) ?_ | (refine Duo.mk (by first | omega | exact rfl | decide) ?_; intros) | (refine Duo.mk (Clo.mk (by kernel_rfl)) ?_; intros)))
    exact l2 H _ ⟨it.E, hO.2, .refl ..⟩ S
  | some e =>
    obtain ⟨hy, j, cs, T, ⟨J, hj, hJ⟩, hb, hc⟩ := Kid.get (kx.there.there.there.there) S
    refine pq_ne hy hb (S.at_ (r := sr) (o := senO) (by simp)) ?_
    (repeat (first | (refine Step.go ?_; intros) | refine iteB_t (by decide) ?_ | refine iteB_f (by decide) ?_ | (refine Duo.mk (by first | omega | exact rfl | decide) ?_; intros) | (refine Duo.mk (Clo.mk (by kernel_rfl)) ?_; intros)))
    refine ⟨j, hcell_of hb hc, ?_⟩
    refine cmpG S hj hO.2 fun H1 S1 => ?_
    (repeat (first | (refine Step.go ?_; intros) | refine iteB_t (by decide) ?_ | refine iteB_f (by decide) ?_ | (refine Duo.mk (by first | omega | exact rfl | decide) ?_; intros) | (refine Duo.mk (Clo.mk (by kernel_rfl)) ?_; intros)))
    rw [cmpE_pos, hJ.lt_r]
    obtain ⟨_, j1, cs1, T1, ⟨J1, hj1, hJ1⟩, hb1, hc1⟩ := Kid.get (kx.there.there.there.there) S1
    refine iteB_i (fun h => ?_) (fun h => ?_)
    · refine F118.L1_step ?_
      unfold F118.L1n
      (repeat (first | (refine Step.go ?_; intros) | refine iteB_t (by decide) ?_ | refine iteB_f (by decide) ?_ | (refine Duo.mk (by first | omega | exact rfl | decide) ?_; intros) | (refine Duo.mk (Clo.mk (by kernel_rfl)) ?_; intros)))
      refine ⟨j1, hcell_of hb1 hc1, ?_⟩
      refine l2 H1 j1 ⟨J1, hj1, hJ1.trans ?_⟩ S1
      rw [show mx2 o it.E (some e) = e from if_pos h]
      exact .refl ..
    · refine l2 H1 _ ⟨it.E, hO.2, ?_⟩ S1
      rw [show mx2 o it.E (some e) = it.E from if_neg (by rw [h]; simp)]
      exact .refl ..
theorem updM_ok : ∀ (k : List Fr) (it : It) (c : Bool) (M : EN) (m : IV) (x y : Nat) (mx my : Option EN) (H : Heap) (l : List HP),
    Sat H (pt it.r (ndO it m x y (par sr k) c) :: cx g o sr it.r (some M) k :: pt sr senO :: has g :: l) → OkI g o it → it.r ≠ sr → IsM g o m M → Kid g o sr l x mx → Kid g o sr l y my →
    F118.L0 (some (aA it.r)) (some (aA sr)) H (fun e H1 => e = .returned (.tuple ⟨[]⟩) ∧ ∃ m', IsM g o m' (mx3 o it.E mx my) ∧ Sat H1 (pt it.r (ndO it m' x y (par sr k) c) :: cx g o sr it.r (some (mx3 o it.E mx my)) k :: pt sr senO :: has g :: l)) := by
  intro k
  induction k with
  | nil =>
    intro it c M m x y mx my H l S hO hne hm kx ky
    refine updM_step S hO hne hm kx ky (fun H1 e S1 => ⟨rfl, m, hm.congr e, S1.to (Ent.cons (cx_congr [] e))⟩) fun m' H1 hm' S1 => ?_
    refine F118.L0_step ?_
    unfold F118.L0n
    refine pq_same ?_
    (repeat (first | (refine Step.go ?_; intros) | refine iteB_t (by decide) ?_ | refine iteB_f (by decide) ?_ | (refine Duo.mk (by first | omega | exact rfl | decide) ?_; intros) | (refine Duo.mk (Clo.mk (by kernel_rfl)) ?_; intros)))
    exact ⟨rfl, m', hm', S1⟩
  | cons f k ih =>
    intro it c M m x y mx my H l S hO hne hm kx ky
    refine updM_step S hO hne hm kx ky (fun H1 e S1 => ⟨rfl, m, hm.congr e, S1.to (Ent.cons (cx_congr (f :: k) e))⟩) fun m' H1 hm' S1 => ?_
    have S2 := (S1.bring (c := cx g o sr it.r (some M) (f :: k)) (by (repeat (first | exact Sel.here | apply Sel.there)))).star
    obtain ⟨mf, f1, f2, f3, S3⟩ := nd_open S2
    obtain ⟨fi, fc, fl, fs⟩ := f
    have kh : ∀ l', Kid g o sr (pt it.r (ndO it m' x y (par sr (⟨fi, fc, fl, fs⟩ :: k)) c) :: l') it.r (some (mx3 o it.E mx my)) := fun l' => Kid.here rfl hm' hne
    have ks : ∀ l', Kid g o sr (tr g o sr fi.r fs :: l') (fs.ref sr) (fs.mx o) := fun l' => kid_tr fs
    have S4 : Sat H1 (pt fi.r (ndO fi mf (if fl then it.r else fs.ref sr) (if fl then fs.ref sr else it.r) (par sr k) fc) :: cx g o sr fi.r (some (Fr.mx o ⟨fi, fc, fl, fs⟩ (some M))) k :: pt sr senO :: has g :: pt it.r (ndO it m' x y (par sr (⟨fi, fc, fl, fs⟩ :: k)) c) :: tr g o sr fi.r fs :: l) := S3.to (by
      iterate 6 (apply Ent.pick; (focus (repeat (first | exact Sel.here | apply Sel.there))))
      exact Ent.refl)
    have em : mx3 o fi.E (if fl then some (mx3 o it.E mx my) else fs.mx o) (if fl then fs.mx o else some (mx3 o it.E mx my)) = Fr.mx o ⟨fi, fc, fl, fs⟩ (some (mx3 o it.E mx my)) := by cases fl <;> rfl
    refine GoL.mono (ih fi fc _ mf _ _ (if fl then some (mx3 o it.E mx my) else fs.mx o) (if fl then fs.mx o else some (mx3 o it.E mx my)) H1 _ S4 f1 f2 f3 ?_ ?_) (fun e H2 h => ?_)
    · cases fl
      · exact (ks _).there
      · exact kh _
    · cases fl
      · exact kh _
      · exact (ks _).there
    · obtain ⟨rfl, m2, g1, S5⟩ := h
      refine ⟨rfl, m', hm', ?_⟩
      rw [em] at g1 S5
      have S6 : Sat H2 (cx g o sr it.r (some (mx3 o it.E mx my)) (⟨fi, fc, fl, fs⟩ :: k) :: pt it.r (ndO it m' x y (par sr (⟨fi, fc, fl, fs⟩ :: k)) c) :: pt sr senO :: has g :: l) := by
        refine S5.to (Ent.star (Ent.trans ?_ (nd_close f1 f2 g1)))
        iterate 6 (apply Ent.pick; (focus (repeat (first | exact Sel.here | apply Sel.there))))
        exact Ent.refl
      refine S6.to ?_
      iterate 4 (apply Ent.pick; (focus (repeat (first | exact Sel.here | apply Sel.there))))
      exact Ent.refl
end
end Go.Proofs.YtobolifgehagfaaGreat

set_option linter.unusedVariables false
set_option linter.unusedSimpArgs false
set_option linter.unnecessarySimpa false
namespace Go.Proofs.YtobolifgehagfaaGreat
open Go Go.Den Go.Proofs
def rootR : List Fr → Nat → Nat
  | [], h => h
  | f :: k, _ => rootR k f.it.r
theorem ref_fill {f : Fr} {t : Tr} {sr : Nat} : (f.fill t).ref sr = f.it.r := by unfold Fr.fill; split <;> rfl
theorem ref_plug {sr : Nat} : ∀ (k : List Fr) (t : Tr), (plug k t).ref sr = rootR k (t.ref sr)
  | [], t => rfl
  | f :: k, t => by rw [plug, ref_plug k, ref_fill]; rfl
section
variable {H : Heap} {l m : List HP} {g : PH} {o : Int} {sr b tp : Nat}
theorem updD {k : List Fr} {it : It} {c : Bool} {M : EN} {m : IV} {x y : Nat} {mx my : Option EN} {Q : List PanicEntry → Heap → Prop} {K : Value → Heap → Prop}
    (S : Sat H (pt it.r (ndO it m x y (par sr k) c) :: cx g o sr it.r (some M) k :: pt sr senO :: has g :: l)) (hO : OkI g o it) (hne : it.r ≠ sr) (hm : IsM g o m M) (kx : Kid g o sr l x mx) (ky : Kid g o sr l y my)
    (k1 : ∀ m' H1, IsM g o m' (mx3 o it.E mx my) → Sat H1 (pt it.r (ndO it m' x y (par sr k) c) :: cx g o sr it.r (some (mx3 o it.E mx my)) k :: pt sr senO :: has g :: l) → K (.tuple ⟨[]⟩) H1) :
    callD Tryz.prog 118 [pA it.r, pA sr] H Q K :=
  call_of (F118.calls (updM_ok k it c M m x y mx my H l S hO hne hm kx ky)) fun e H1 ⟨he, m', h1, S1⟩ => by subst he; exact k1 m' H1 h1 S1
theorem pq_ref {ca : List Value} {T : TypeId} {p : Nat} {t : Tr} {K : Bool → Prop} (S : Sat H (pt b (.cells ⟨ca⟩ T) :: tr g o sr p t :: pt sr senO :: l)) (hb : b ≠ sr) (k : K false) : pqD H (some (aA b)) (some (aA (t.ref sr))) K := by
  cases t with
  | nil => exact pq_ne hb (S.at_ (r := b) (o := .cells ⟨ca⟩ T) (by simp)) (S.at_ (r := sr) (o := senO) (by simp)) k
  | node it c u v =>
    have S1 := (S.bring (c := tr g o sr p (.node it c u v)) (by (repeat (first | exact Sel.here | apply Sel.there))))
    obtain ⟨m, h1, h2, h3, S2⟩ := tr_open S1
    refine pq_ne ?_ (S2.at_ (r := b) (o := .cells ⟨ca⟩ T) (by simp)) (S2.at_ (r := it.r) (o := ndO it m (u.ref sr) (v.ref sr) p c) (by simp)) k
    exact S2.ne (r := b) (r' := it.r) (by (repeat (first | exact Sel.here | apply Sel.there))) (by (repeat (first | exact Sel.here | apply Sel.there)))
theorem repl_ok {xi yi : It} {xc yc : Bool} {xm ym : IV} {xl xr yl yr yp : Nat} {n : Int} {M N : EN} {k : List Fr}
    (S : Sat H (pt xi.r (ndO xi xm xl xr (par sr k) xc) :: pt yi.r (ndO yi ym yl yr yp yc) :: cx g o sr xi.r (some M) k :: pt tp (treO (rootR k xi.r) n sr) :: pt sr senO :: has g :: l)) (hx : xi.r ≠ sr) (hy : yi.r ≠ sr) (hm : IsM g o ym N) :
    CallsH Tryz.prog 143 ⟨[pA tp, pA xi.r, pA yi.r]⟩ H (fun e H1 => e = .returned (.tuple ⟨[]⟩) ∧ Sat H1 (pt xi.r (ndO xi xm xl xr yi.r xc) :: pt yi.r (ndO yi ym yl yr (par sr k) yc) :: cx g o sr yi.r (some N) k :: pt tp (treO (rootR k yi.r) n sr) :: pt sr senO :: has g :: l)) := by
  refine F143.calls ?_
  unfold F143.go
  cases k with
  | nil =>
    (repeat (first | (refine Step.go ?_; intros) | refine iteB_t (by decide) ?_ | refine iteB_f (by decide) ?_ | (refine Duo.mk (by first | omega | exact rfl | decide) ?_; intros) | (refine Duo.mk (Clo.mk (by kernel_rfl)) ?_; intros)))
    refine pq_same ?_
    (repeat (first | (refine Step.go ?_; intros) | refine iteB_t (by decide) ?_ | refine iteB_f (by decide) ?_ | (refine Duo.mk (by first | omega | exact rfl | decide) ?_; intros) | (refine Duo.mk (Clo.mk (by kernel_rfl)) ?_; intros)))
    refine ⟨rfl, ?_⟩
    (refine Sat.to (by assumption) ?_; apply Ent.pick; (focus (repeat (first | exact Sel.here | apply Sel.there))); apply Ent.pick; (focus (repeat (first | exact Sel.here | apply Sel.there))); apply Ent.pick; (focus (repeat (first | exact Sel.here | apply Sel.there))); apply Ent.pick; (focus (repeat (first | exact Sel.here | apply Sel.there))); apply Ent.pick; (focus (repeat (first | exact Sel.here | apply Sel.there))); exact Fits.out)
  | cons f k =>
    obtain ⟨fi, fc, fl, fs⟩ := f
    have S2 := (S.bring (c := cx g o sr xi.r (some M) (⟨fi, fc, fl, fs⟩ :: k)) (by (repeat (first | exact Sel.here | apply Sel.there)))).star
    obtain ⟨mf, f1, f2, f3, S3⟩ := nd_open S2
    clear S2
    cases fl with
    | true =>
      have S3 : Sat H (pt fi.r (ndO fi mf xi.r (fs.ref sr) (par sr k) fc) :: tr g o sr fi.r fs :: cx g o sr fi.r (some (Fr.mx o ⟨fi, fc, true, fs⟩ (some M))) k :: pt xi.r (ndO xi xm xl xr fi.r xc) :: pt yi.r (ndO yi ym yl yr yp yc) :: pt tp (treO (rootR k fi.r) n sr) :: pt sr senO :: has g :: l) := S3
      clear S
      (repeat (first | (refine Step.go ?_; intros) | refine iteB_t (by decide) ?_ | refine iteB_f (by decide) ?_ | (refine Duo.mk (by first | omega | exact rfl | decide) ?_; intros) | (refine Duo.mk (Clo.mk (by kernel_rfl)) ?_; intros)))
      rename_i H1 S4
      refine pq_ne f2 (S4.obj) (S4.obj) ?_
      (repeat (first | (refine Step.go ?_; intros) | refine iteB_t (by decide) ?_ | refine iteB_f (by decide) ?_ | (refine Duo.mk (by first | omega | exact rfl | decide) ?_; intros) | (refine Duo.mk (Clo.mk (by kernel_rfl)) ?_; intros)))
      refine pq_same ?_
      (repeat (first | (refine Step.go ?_; intros) | refine iteB_t (by decide) ?_ | refine iteB_f (by decide) ?_ | (refine Duo.mk (by first | omega | exact rfl | decide) ?_; intros) | (refine Duo.mk (Clo.mk (by kernel_rfl)) ?_; intros)))
      refine F143.L0_step ?_
      unfold F143.L0n
      (repeat (first | (refine Step.go ?_; intros) | refine iteB_t (by decide) ?_ | refine iteB_f (by decide) ?_ | (refine Duo.mk (by first | omega | exact rfl | decide) ?_; intros) | (refine Duo.mk (Clo.mk (by kernel_rfl)) ?_; intros)))
      rename_i H2 S5
      refine updD (k := k) (it := fi) (c := fc) (m := mf) (x := yi.r) (y := (fs.ref sr)) (mx := some N) (my := fs.mx o) (l := tr g o sr fi.r fs :: pt yi.r (ndO yi ym yl yr fi.r yc) :: pt xi.r (ndO xi xm xl xr fi.r xc) :: pt tp (treO (rootR k fi.r) n sr) :: l) (S5.to ?_) f1 f2 f3 ?_ ?_ ?_
      · iterate 8 (apply Ent.pick; (focus (repeat (first | exact Sel.here | apply Sel.there))))
        exact Ent.refl
      · exact (Kid.here rfl hm hy).there
      · exact kid_tr fs
      intro m' H3 h1 S6
      (repeat (first | (refine Step.go ?_; intros) | refine iteB_t (by decide) ?_ | refine iteB_f (by decide) ?_ | (refine Duo.mk (by first | omega | exact rfl | decide) ?_; intros) | (refine Duo.mk (Clo.mk (by kernel_rfl)) ?_; intros)))
      rename_i H4 S7
      refine ⟨rfl, ?_⟩
      have S8 : Sat H4 (cx g o sr yi.r (some N) (⟨fi, fc, true, fs⟩ :: k) :: pt xi.r (ndO xi xm xl xr yi.r xc) :: pt yi.r (ndO yi ym yl yr fi.r yc) :: pt tp (treO (rootR k fi.r) n sr) :: pt sr senO :: has g :: l) := by
        refine S7.to (Ent.star (Ent.trans ?_ (nd_close f1 f2 h1)))
        iterate 8 (apply Ent.pick; (focus (repeat (first | exact Sel.here | apply Sel.there))))
        exact Ent.refl
      refine S8.to ?_
      iterate 6 (apply Ent.pick; (focus (repeat (first | exact Sel.here | apply Sel.there))))
      exact Ent.refl
    | false =>
      have S3 : Sat H (pt fi.r (ndO fi mf (fs.ref sr) xi.r (par sr k) fc) :: tr g o sr fi.r fs :: cx g o sr fi.r (some (Fr.mx o ⟨fi, fc, false, fs⟩ (some M))) k :: pt xi.r (ndO xi xm xl xr fi.r xc) :: pt yi.r (ndO yi ym yl yr yp yc) :: pt tp (treO (rootR k fi.r) n sr) :: pt sr senO :: has g :: l) := S3
      clear S
      (repeat (first | (refine Step.go ?_; intros) | refine iteB_t (by decide) ?_ | refine iteB_f (by decide) ?_ | (refine Duo.mk (by first | omega | exact rfl | decide) ?_; intros) | (refine Duo.mk (Clo.mk (by kernel_rfl)) ?_; intros)))
      rename_i H1 S4
      refine pq_ne f2 (S4.obj) (S4.obj) ?_
      (repeat (first | (refine Step.go ?_; intros) | refine iteB_t (by decide) ?_ | refine iteB_f (by decide) ?_ | (refine Duo.mk (by first | omega | exact rfl | decide) ?_; intros) | (refine Duo.mk (Clo.mk (by kernel_rfl)) ?_; intros)))
      refine pq_ref (T := 146) (ca := [xi.i.v, xi.j.v, xi.v.v, xm.v, pA xl, pA xr, pA fi.r, .int .i64 (colI xc)]) (p := fi.r) (t := fs) (g := g) (o := o) (l := []) (S4.to ?_) hx ?_
      · iterate 3 (apply Ent.pick; (focus (repeat (first | exact Sel.here | apply Sel.there))))
        exact Ent.nil
      (repeat (first | (refine Step.go ?_; intros) | refine iteB_t (by decide) ?_ | refine iteB_f (by decide) ?_ | (refine Duo.mk (by first | omega | exact rfl | decide) ?_; intros) | (refine Duo.mk (Clo.mk (by kernel_rfl)) ?_; intros)))
      refine F143.L0_step ?_
      unfold F143.L0n
      (repeat (first | (refine Step.go ?_; intros) | refine iteB_t (by decide) ?_ | refine iteB_f (by decide) ?_ | (refine Duo.mk (by first | omega | exact rfl | decide) ?_; intros) | (refine Duo.mk (Clo.mk (by kernel_rfl)) ?_; intros)))
      rename_i H2 S5
      refine updD (k := k) (it := fi) (c := fc) (m := mf) (x := (fs.ref sr)) (y := yi.r) (mx := fs.mx o) (my := some N) (l := tr g o sr fi.r fs :: pt yi.r (ndO yi ym yl yr fi.r yc) :: pt xi.r (ndO xi xm xl xr fi.r xc) :: pt tp (treO (rootR k fi.r) n sr) :: l) (S5.to ?_) f1 f2 f3 ?_ ?_ ?_
      · iterate 8 (apply Ent.pick; (focus (repeat (first | exact Sel.here | apply Sel.there))))
        exact Ent.refl
      · exact kid_tr fs
      · exact (Kid.here rfl hm hy).there
      intro m' H3 h1 S6
      (repeat (first | (refine Step.go ?_; intros) | refine iteB_t (by decide) ?_ | refine iteB_f (by decide) ?_ | (refine Duo.mk (by first | omega | exact rfl | decide) ?_; intros) | (refine Duo.mk (Clo.mk (by kernel_rfl)) ?_; intros)))
      rename_i H4 S7
      refine ⟨rfl, ?_⟩
      have S8 : Sat H4 (cx g o sr yi.r (some N) (⟨fi, fc, false, fs⟩ :: k) :: pt xi.r (ndO xi xm xl xr yi.r xc) :: pt yi.r (ndO yi ym yl yr fi.r yc) :: pt tp (treO (rootR k fi.r) n sr) :: pt sr senO :: has g :: l) := by
        refine S7.to (Ent.star (Ent.trans ?_ (nd_close f1 f2 h1)))
        iterate 8 (apply Ent.pick; (focus (repeat (first | exact Sel.here | apply Sel.there))))
        exact Ent.refl
      refine S8.to ?_
      iterate 6 (apply Ent.pick; (focus (repeat (first | exact Sel.here | apply Sel.there))))
      exact Ent.refl
theorem rotL_ok {xi yi : It} {xc yc : Bool} {a b e : Tr} {n : Int} {k : List Fr}
    (S : Sat H (tr g o sr (par sr k) (.node xi xc a (.node yi yc b e)) :: cx g o sr xi.r (Tr.mx o (.node xi xc a (.node yi yc b e))) k :: pt tp (treO (rootR k xi.r) n sr) :: pt sr senO :: has g :: l)) :
    CallsH Tryz.prog 141 ⟨[pA tp, pA xi.r]⟩ H (fun e' H1 => e' = .returned (.tuple ⟨[]⟩) ∧ Sat H1 (tr g o sr (par sr k) (.node yi yc (.node xi xc a b) e) :: cx g o sr yi.r (Tr.mx o (.node yi yc (.node xi xc a b) e)) k :: pt tp (treO (rootR k yi.r) n sr) :: pt sr senO :: has g :: l)) := by
  obtain ⟨xm, ox, nx, hxm, S1⟩ := tr_open S
  obtain ⟨ym, oy, ny, hym, S2⟩ := tr_open (S1.bring (c := tr g o sr xi.r (.node yi yc b e)) (by (repeat (first | exact Sel.here | apply Sel.there))))
  clear S S1
  have T0 : Sat H (pt yi.r (ndO yi ym (b.ref sr) (e.ref sr) xi.r yc) :: tr g o sr yi.r b :: tr g o sr yi.r e :: pt xi.r (ndO xi xm (a.ref sr) yi.r (par sr k) xc) :: tr g o sr xi.r a :: cx g o sr xi.r (Tr.mx o (.node xi xc a (.node yi yc b e))) k :: pt tp (treO (rootR k xi.r) n sr) :: pt sr senO :: has g :: l) := by
    refine S2.to ?_
    iterate 9 (apply Ent.pick; (focus (repeat (first | exact Sel.here | apply Sel.there))))
    exact Ent.refl
  clear S2
  have l0 : ∀ H, Sat H (pt xi.r (ndO xi xm (a.ref sr) (b.ref sr) (par sr k) xc) :: pt yi.r (ndO yi ym (b.ref sr) (e.ref sr) xi.r yc) :: tr g o sr xi.r b :: tr g o sr yi.r e :: tr g o sr xi.r a :: cx g o sr xi.r (Tr.mx o (.node xi xc a (.node yi yc b e))) k :: pt tp (treO (rootR k xi.r) n sr) :: pt sr senO :: has g :: l) →
      F141.L0 (some (aA tp)) (some (aA xi.r)) (some (aA yi.r)) H (fun e' H1 => e' = .returned (.tuple ⟨[]⟩) ∧ Sat H1 (tr g o sr (par sr k) (.node yi yc (.node xi xc a b) e) :: cx g o sr yi.r (Tr.mx o (.node yi yc (.node xi xc a b) e)) k :: pt tp (treO (rootR k yi.r) n sr) :: pt sr senO :: has g :: l)) := by
    intro H S
    refine F141.L0_step ?_
    unfold F141.L0n
    (repeat (first | (refine Step.go ?_; intros) | refine iteB_t (by decide) ?_ | refine iteB_f (by decide) ?_ | (refine Duo.mk (by first | omega | exact rfl | decide) ?_; intros) | (refine Duo.mk (Clo.mk (by kernel_rfl)) ?_; intros)))
    have T1 : Sat H (pt xi.r (ndO xi xm (a.ref sr) (b.ref sr) (par sr k) xc) :: cx g o sr xi.r (some (mx3 o xi.E (a.mx o) (Tr.mx o (.node yi yc b e)))) k :: pt sr senO :: has g :: tr g o sr xi.r a :: tr g o sr xi.r b :: pt yi.r (ndO yi ym (b.ref sr) (e.ref sr) xi.r yc) :: tr g o sr yi.r e :: pt tp (treO (rootR k xi.r) n sr) :: l) := by
      refine S.to ?_
      iterate 9 (apply Ent.pick; (focus (repeat (first | exact Sel.here | apply Sel.there))))
      exact Ent.refl
    clear S
    refine updD (k := k) (it := xi) (c := xc) (m := xm) (x := (a.ref sr)) (y := (b.ref sr)) (mx := a.mx o) (my := b.mx o) T1 ox nx hxm ?_ ?_ ?_
    · exact kid_tr a
    · exact (kid_tr b).there
    intro m' H1 h1 S1
    (repeat (first | (refine Step.go ?_; intros) | refine iteB_t (by decide) ?_ | refine iteB_f (by decide) ?_ | (refine Duo.mk (by first | omega | exact rfl | decide) ?_; intros) | (refine Duo.mk (Clo.mk (by kernel_rfl)) ?_; intros)))
    have T2 : Sat H1 (pt xi.r (ndO xi m' (a.ref sr) (b.ref sr) (par sr k) xc) :: pt yi.r (ndO yi ym (b.ref sr) (e.ref sr) xi.r yc) :: cx g o sr xi.r (some (mx3 o xi.E (a.mx o) (b.mx o))) k :: pt tp (treO (rootR k xi.r) n sr) :: pt sr senO :: has g :: tr g o sr xi.r a :: tr g o sr xi.r b :: tr g o sr yi.r e :: l) := by
      refine S1.to ?_
      iterate 9 (apply Ent.pick; (focus (repeat (first | exact Sel.here | apply Sel.there))))
      exact Ent.refl
    clear S1
    refine call_of (repl_ok T2 nx ny hym) ?_
    rintro _ H2 ⟨rfl, S3⟩
    (repeat (first | (refine Step.go ?_; intros) | refine iteB_t (by decide) ?_ | refine iteB_f (by decide) ?_ | (refine Duo.mk (by first | omega | exact rfl | decide) ?_; intros) | (refine Duo.mk (Clo.mk (by kernel_rfl)) ?_; intros)))
    rename_i H3 S4
    have T3 : Sat H3 (pt yi.r (ndO yi ym xi.r (e.ref sr) (par sr k) yc) :: cx g o sr yi.r (some (mx3 o yi.E (b.mx o) (e.mx o))) k :: pt sr senO :: has g :: pt xi.r (ndO xi m' (a.ref sr) (b.ref sr) yi.r xc) :: tr g o sr yi.r e :: tr g o sr xi.r a :: tr g o sr xi.r b :: pt tp (treO (rootR k yi.r) n sr) :: l) := by
      refine S4.to ?_
      iterate 9 (apply Ent.pick; (focus (repeat (first | exact Sel.here | apply Sel.there))))
      exact Ent.refl
    clear S4
    (repeat (first | (refine Step.go ?_; intros) | refine iteB_t (by decide) ?_ | refine iteB_f (by decide) ?_ | (refine Duo.mk (by first | omega | exact rfl | decide) ?_; intros) | (refine Duo.mk (Clo.mk (by kernel_rfl)) ?_; intros)))
    refine updD (k := k) (it := yi) (c := yc) (m := ym) (x := xi.r) (y := (e.ref sr)) (mx := some (mx3 o xi.E (a.mx o) (b.mx o))) (my := e.mx o) T3 oy ny hym ?_ ?_ ?_
    · exact Kid.here rfl h1 nx
    · exact (kid_tr e).there
    intro m2 H4 h2 S5
    (repeat (first | (refine Step.go ?_; intros) | refine iteB_t (by decide) ?_ | refine iteB_f (by decide) ?_ | (refine Duo.mk (by first | omega | exact rfl | decide) ?_; intros) | (refine Duo.mk (Clo.mk (by kernel_rfl)) ?_; intros)))
    refine ⟨rfl, ?_⟩
    have S6 : Sat H4 (tr g o sr yi.r (.node xi xc a b) :: pt yi.r (ndO yi m2 xi.r (e.ref sr) (par sr k) yc) :: tr g o sr yi.r e :: cx g o sr yi.r (Tr.mx o (.node yi yc (.node xi xc a b) e)) k :: pt tp (treO (rootR k yi.r) n sr) :: pt sr senO :: has g :: l) := by
      refine S5.to (Ent.trans ?_ (tr_close ox nx h1))
      iterate 9 (apply Ent.pick; (focus (repeat (first | exact Sel.here | apply Sel.there))))
      exact Ent.refl
    refine S6.to (Ent.trans ?_ (tr_close oy ny h2))
    iterate 7 (apply Ent.pick; (focus (repeat (first | exact Sel.here | apply Sel.there))))
    exact Ent.refl
  refine F141.calls ?_
  unfold F141.go
  (repeat (first | (refine Step.go ?_; intros) | refine iteB_t (by decide) ?_ | refine iteB_f (by decide) ?_ | (refine Duo.mk (by first | omega | exact rfl | decide) ?_; intros) | (refine Duo.mk (Clo.mk (by kernel_rfl)) ?_; intros)))
  refine pq_ne ny (T0.obj) (T0.obj) ?_
  (repeat (first | (refine Step.go ?_; intros) | refine iteB_t (by decide) ?_ | refine iteB_f (by decide) ?_ | (refine Duo.mk (by first | omega | exact rfl | decide) ?_; intros) | (refine Duo.mk (Clo.mk (by kernel_rfl)) ?_; intros)))
  rename_i H1 S3
  clear T0
  cases b with
  | nil =>
    refine pq_same ?_
    (repeat (first | (refine Step.go ?_; intros) | refine iteB_t (by decide) ?_ | refine iteB_f (by decide) ?_ | (refine Duo.mk (by first | omega | exact rfl | decide) ?_; intros) | (refine Duo.mk (Clo.mk (by kernel_rfl)) ?_; intros)))
    refine l0 _ (S3.to ?_)
    iterate 2 (apply Ent.pick; (focus (repeat (first | exact Sel.here | apply Sel.there))))
    refine Ent.trans ?_ tr_mknil
    refine Ent.trans (Ent.bring (c := tr g o sr yi.r .nil) (by (repeat (first | exact Sel.here | apply Sel.there)))) (Ent.trans tr_nil ?_)
    iterate 6 (apply Ent.pick; (focus (repeat (first | exact Sel.here | apply Sel.there))))
    exact Ent.refl
  | node bi bc bl br =>
    obtain ⟨bm, ob, nb, hbm, S4⟩ := tr_open (S3.bring (c := tr g o sr yi.r (.node bi bc bl br)) (by (repeat (first | exact Sel.here | apply Sel.there))))
    clear S3
    have T4 : Sat H1 (pt bi.r (ndO bi bm (bl.ref sr) (br.ref sr) yi.r bc) :: tr g o sr bi.r bl :: tr g o sr bi.r br :: pt xi.r (ndO xi xm (a.ref sr) bi.r (par sr k) xc) :: pt yi.r (ndO yi ym bi.r (e.ref sr) xi.r yc) :: tr g o sr yi.r e :: tr g o sr xi.r a :: cx g o sr xi.r (Tr.mx o (.node xi xc a (.node yi yc (.node bi bc bl br) e))) k :: pt tp (treO (rootR k xi.r) n sr) :: pt sr senO :: has g :: l) := by
      refine S4.to ?_
      iterate 10 (apply Ent.pick; (focus (repeat (first | exact Sel.here | apply Sel.there))))
      exact Ent.refl
    clear S4
    dsimp only [Tr.ref]
    refine pq_ne nb (T4.obj) (T4.obj) ?_
    (repeat (first | (refine Step.go ?_; intros) | refine iteB_t (by decide) ?_ | refine iteB_f (by decide) ?_ | (refine Duo.mk (by first | omega | exact rfl | decide) ?_; intros) | (refine Duo.mk (Clo.mk (by kernel_rfl)) ?_; intros)))
    rename_i H2 S5
    refine l0 _ (S5.to ?_)
    iterate 2 (apply Ent.pick; (focus (repeat (first | exact Sel.here | apply Sel.there))))
    refine Ent.trans ?_ (tr_close ob nb hbm)
    iterate 9 (apply Ent.pick; (focus (repeat (first | exact Sel.here | apply Sel.there))))
    exact Ent.refl
theorem rotR_ok {xi yi : It} {xc yc : Bool} {a b e : Tr} {n : Int} {k : List Fr}
    (S : Sat H (tr g o sr (par sr k) (.node xi xc (.node yi yc e b) a) :: cx g o sr xi.r (Tr.mx o (.node xi xc (.node yi yc e b) a)) k :: pt tp (treO (rootR k xi.r) n sr) :: pt sr senO :: has g :: l)) :
    CallsH Tryz.prog 142 ⟨[pA tp, pA xi.r]⟩ H (fun e' H1 => e' = .returned (.tuple ⟨[]⟩) ∧ Sat H1 (tr g o sr (par sr k) (.node yi yc e (.node xi xc b a)) :: cx g o sr yi.r (Tr.mx o (.node yi yc e (.node xi xc b a))) k :: pt tp (treO (rootR k yi.r) n sr) :: pt sr senO :: has g :: l)) := by
  obtain ⟨xm, ox, nx, hxm, S1⟩ := tr_open S
  obtain ⟨ym, oy, ny, hym, S2⟩ := tr_open (S1.bring (c := tr g o sr xi.r (.node yi yc e b)) (by (repeat (first | exact Sel.here | apply Sel.there))))
  clear S S1
  have T0 : Sat H (pt yi.r (ndO yi ym (e.ref sr) (b.ref sr) xi.r yc) :: tr g o sr yi.r b :: tr g o sr yi.r e :: pt xi.r (ndO xi xm yi.r (a.ref sr) (par sr k) xc) :: tr g o sr xi.r a :: cx g o sr xi.r (Tr.mx o (.node xi xc (.node yi yc e b) a)) k :: pt tp (treO (rootR k xi.r) n sr) :: pt sr senO :: has g :: l) := by
    refine S2.to ?_
    iterate 9 (apply Ent.pick; (focus (repeat (first | exact Sel.here | apply Sel.there))))
    exact Ent.refl
  clear S2
  have l0 : ∀ H, Sat H (pt xi.r (ndO xi xm (b.ref sr) (a.ref sr) (par sr k) xc) :: pt yi.r (ndO yi ym (e.ref sr) (b.ref sr) xi.r yc) :: tr g o sr xi.r b :: tr g o sr yi.r e :: tr g o sr xi.r a :: cx g o sr xi.r (Tr.mx o (.node xi xc (.node yi yc e b) a)) k :: pt tp (treO (rootR k xi.r) n sr) :: pt sr senO :: has g :: l) →
      F142.L0 (some (aA tp)) (some (aA xi.r)) (some (aA yi.r)) H (fun e' H1 => e' = .returned (.tuple ⟨[]⟩) ∧ Sat H1 (tr g o sr (par sr k) (.node yi yc e (.node xi xc b a)) :: cx g o sr yi.r (Tr.mx o (.node yi yc e (.node xi xc b a))) k :: pt tp (treO (rootR k yi.r) n sr) :: pt sr senO :: has g :: l)) := by
    intro H S
    refine F142.L0_step ?_
    unfold F142.L0n
    (repeat (first | (refine Step.go ?_; intros) | refine iteB_t (by decide) ?_ | refine iteB_f (by decide) ?_ | (refine Duo.mk (by first | omega | exact rfl | decide) ?_; intros) | (refine Duo.mk (Clo.mk (by kernel_rfl)) ?_; intros)))
    have T1 : Sat H (pt xi.r (ndO xi xm (b.ref sr) (a.ref sr) (par sr k) xc) :: cx g o sr xi.r (some (mx3 o xi.E (Tr.mx o (.node yi yc e b)) (a.mx o))) k :: pt sr senO :: has g :: tr g o sr xi.r a :: tr g o sr xi.r b :: pt yi.r (ndO yi ym (e.ref sr) (b.ref sr) xi.r yc) :: tr g o sr yi.r e :: pt tp (treO (rootR k xi.r) n sr) :: l) := by
      refine S.to ?_
      iterate 9 (apply Ent.pick; (focus (repeat (first | exact Sel.here | apply Sel.there))))
      exact Ent.refl
    clear S
    refine updD (k := k) (it := xi) (c := xc) (m := xm) (x := (b.ref sr)) (y := (a.ref sr)) (mx := b.mx o) (my := a.mx o) T1 ox nx hxm ?_ ?_ ?_
    · exact (kid_tr b).there
    · exact kid_tr a
    intro m' H1 h1 S1
    (repeat (first | (refine Step.go ?_; intros) | refine iteB_t (by decide) ?_ | refine iteB_f (by decide) ?_ | (refine Duo.mk (by first | omega | exact rfl | decide) ?_; intros) | (refine Duo.mk (Clo.mk (by kernel_rfl)) ?_; intros)))
    have T2 : Sat H1 (pt xi.r (ndO xi m' (b.ref sr) (a.ref sr) (par sr k) xc) :: pt yi.r (ndO yi ym (e.ref sr) (b.ref sr) xi.r yc) :: cx g o sr xi.r (some (mx3 o xi.E (b.mx o) (a.mx o))) k :: pt tp (treO (rootR k xi.r) n sr) :: pt sr senO :: has g :: tr g o sr xi.r a :: tr g o sr xi.r b :: tr g o sr yi.r e :: l) := by
      refine S1.to ?_
      iterate 9 (apply Ent.pick; (focus (repeat (first | exact Sel.here | apply Sel.there))))
      exact Ent.refl
    clear S1
    refine call_of (repl_ok T2 nx ny hym) ?_
    rintro _ H2 ⟨rfl, S3⟩
    (repeat (first | (refine Step.go ?_; intros) | refine iteB_t (by decide) ?_ | refine iteB_f (by decide) ?_ | (refine Duo.mk (by first | omega | exact rfl | decide) ?_; intros) | (refine Duo.mk (Clo.mk (by kernel_rfl)) ?_; intros)))
    rename_i H3 S4
    have T3 : Sat H3 (pt yi.r (ndO yi ym (e.ref sr) xi.r (par sr k) yc) :: cx g o sr yi.r (some (mx3 o yi.E (e.mx o) (b.mx o))) k :: pt sr senO :: has g :: pt xi.r (ndO xi m' (b.ref sr) (a.ref sr) yi.r xc) :: tr g o sr yi.r e :: tr g o sr xi.r a :: tr g o sr xi.r b :: pt tp (treO (rootR k yi.r) n sr) :: l) := by
      refine S4.to ?_
      iterate 9 (apply Ent.pick; (focus (repeat (first | exact Sel.here | apply Sel.there))))
      exact Ent.refl
    clear S4
    (repeat (first | (refine Step.go ?_; intros) | refine iteB_t (by decide) ?_ | refine iteB_f (by decide) ?_ | (refine Duo.mk (by first | omega | exact rfl | decide) ?_; intros) | (refine Duo.mk (Clo.mk (by kernel_rfl)) ?_; intros)))
    refine updD (k := k) (it := yi) (c := yc) (m := ym) (x := (e.ref sr)) (y := xi.r) (mx := e.mx o) (my := some (mx3 o xi.E (b.mx o) (a.mx o))) T3 oy ny hym ?_ ?_ ?_
    · exact (kid_tr e).there
    · exact Kid.here rfl h1 nx
    intro m2 H4 h2 S5
    (repeat (first | (refine Step.go ?_; intros) | refine iteB_t (by decide) ?_ | refine iteB_f (by decide) ?_ | (refine Duo.mk (by first | omega | exact rfl | decide) ?_; intros) | (refine Duo.mk (Clo.mk (by kernel_rfl)) ?_; intros)))
    refine ⟨rfl, ?_⟩
    have S6 : Sat H4 (tr g o sr yi.r (.node xi xc b a) :: pt yi.r (ndO yi m2 (e.ref sr) xi.r (par sr k) yc) :: tr g o sr yi.r e :: cx g o sr yi.r (Tr.mx o (.node yi yc e (.node xi xc b a))) k :: pt tp (treO (rootR k yi.r) n sr) :: pt sr senO :: has g :: l) := by
      refine S5.to (Ent.trans ?_ (tr_close ox nx h1))
      iterate 9 (apply Ent.pick; (focus (repeat (first | exact Sel.here | apply Sel.there))))
      exact Ent.refl
    refine S6.to (Ent.trans ?_ (tr_close oy ny h2))
    iterate 7 (apply Ent.pick; (focus (repeat (first | exact Sel.here | apply Sel.there))))
    exact Ent.refl
  refine F142.calls ?_
  unfold F142.go
  (repeat (first | (refine Step.go ?_; intros) | refine iteB_t (by decide) ?_ | refine iteB_f (by decide) ?_ | (refine Duo.mk (by first | omega | exact rfl | decide) ?_; intros) | (refine Duo.mk (Clo.mk (by kernel_rfl)) ?_; intros)))
  refine pq_ne ny (T0.obj) (T0.obj) ?_
  (repeat (first | (refine Step.go ?_; intros) | refine iteB_t (by decide) ?_ | refine iteB_f (by decide) ?_ | (refine Duo.mk (by first | omega | exact rfl | decide) ?_; intros) | (refine Duo.mk (Clo.mk (by kernel_rfl)) ?_; intros)))
  rename_i H1 S3
  clear T0
  cases b with
  | nil =>
    refine pq_same ?_
    (repeat (first | (refine Step.go ?_; intros) | refine iteB_t (by decide) ?_ | refine iteB_f (by decide) ?_ | (refine Duo.mk (by first | omega | exact rfl | decide) ?_; intros) | (refine Duo.mk (Clo.mk (by kernel_rfl)) ?_; intros)))
    refine l0 _ (S3.to ?_)
    iterate 2 (apply Ent.pick; (focus (repeat (first | exact Sel.here | apply Sel.there))))
    refine Ent.trans ?_ tr_mknil
    refine Ent.trans (Ent.bring (c := tr g o sr yi.r .nil) (by (repeat (first | exact Sel.here | apply Sel.there)))) (Ent.trans tr_nil ?_)
    iterate 6 (apply Ent.pick; (focus (repeat (first | exact Sel.here | apply Sel.there))))
    exact Ent.refl
  | node bi bc bl br =>
    obtain ⟨bm, ob, nb, hbm, S4⟩ := tr_open (S3.bring (c := tr g o sr yi.r (.node bi bc bl br)) (by (repeat (first | exact Sel.here | apply Sel.there))))
    clear S3
    have T4 : Sat H1 (pt bi.r (ndO bi bm (bl.ref sr) (br.ref sr) yi.r bc) :: tr g o sr bi.r bl :: tr g o sr bi.r br :: pt xi.r (ndO xi xm bi.r (a.ref sr) (par sr k) xc) :: pt yi.r (ndO yi ym (e.ref sr) bi.r xi.r yc) :: tr g o sr yi.r e :: tr g o sr xi.r a :: cx g o sr xi.r (Tr.mx o (.node xi xc (.node yi yc e (.node bi bc bl br)) a)) k :: pt tp (treO (rootR k xi.r) n sr) :: pt sr senO :: has g :: l) := by
      refine S4.to ?_
      iterate 10 (apply Ent.pick; (focus (repeat (first | exact Sel.here | apply Sel.there))))
      exact Ent.refl
    clear S4
    dsimp only [Tr.ref]
    refine pq_ne nb (T4.obj) (T4.obj) ?_
    (repeat (first | (refine Step.go ?_; intros) | refine iteB_t (by decide) ?_ | refine iteB_f (by decide) ?_ | (refine Duo.mk (by first | omega | exact rfl | decide) ?_; intros) | (refine Duo.mk (Clo.mk (by kernel_rfl)) ?_; intros)))
    rename_i H2 S5
    refine l0 _ (S5.to ?_)
    iterate 2 (apply Ent.pick; (focus (repeat (first | exact Sel.here | apply Sel.there))))
    refine Ent.trans ?_ (tr_close ob nb hbm)
    iterate 9 (apply Ent.pick; (focus (repeat (first | exact Sel.here | apply Sel.there))))
    exact Ent.refl
end
end Go.Proofs.YtobolifgehagfaaGreat

set_option linter.unusedVariables false
set_option linter.unusedSimpArgs false
set_option linter.unnecessarySimpa false
namespace Go.Proofs.YtobolifgehagfaaGreat
open Go Go.Den Go.Proofs
section
variable {H : Heap} {l m : List HP} {g : PH} {o : Int} {sr b tp : Nat}
theorem zip_down (f : Fr) (k : List Fr) (t : Tr) : Ent (tr g o sr (par sr k) (f.fill t) :: cx g o sr f.it.r ((f.fill t).mx o) k :: l) (tr g o sr f.it.r t :: cx g o sr (t.ref sr) (t.mx o) (f :: k) :: l) := by
  obtain ⟨fi, fc, fl, fs⟩ := f
  cases fl
  · refine Ent.starL (Ent.trans ?_ (Ent.cons (Ent.star .refl)))
    dsimp only [List.cons_append, List.nil_append]
    iterate 4 (apply Ent.pick; (focus (repeat (first | exact Sel.here | apply Sel.there))))
    exact Ent.refl
  · refine Ent.starL (Ent.trans ?_ (Ent.cons (Ent.star .refl)))
    dsimp only [List.cons_append, List.nil_append]
    iterate 4 (apply Ent.pick; (focus (repeat (first | exact Sel.here | apply Sel.there))))
    exact Ent.refl
theorem zip_up (f : Fr) (k : List Fr) (t : Tr) : Ent (tr g o sr f.it.r t :: cx g o sr (t.ref sr) (t.mx o) (f :: k) :: l) (tr g o sr (par sr k) (f.fill t) :: cx g o sr f.it.r ((f.fill t).mx o) k :: l) := by
  obtain ⟨fi, fc, fl, fs⟩ := f
  cases fl
  · refine Ent.trans (Ent.bring (c := cx g o sr (t.ref sr) (t.mx o) (⟨fi, fc, false, fs⟩ :: k)) (by (repeat (first | exact Sel.here | apply Sel.there)))) (Ent.starL (Ent.star ?_))
    dsimp only [List.cons_append, List.nil_append]
    iterate 4 (apply Ent.pick; (focus (repeat (first | exact Sel.here | apply Sel.there))))
    exact Ent.refl
  · refine Ent.trans (Ent.bring (c := cx g o sr (t.ref sr) (t.mx o) (⟨fi, fc, true, fs⟩ :: k)) (by (repeat (first | exact Sel.here | apply Sel.there)))) (Ent.starL (Ent.star ?_))
    dsimp only [List.cons_append, List.nil_append]
    iterate 4 (apply Ent.pick; (focus (repeat (first | exact Sel.here | apply Sel.there))))
    exact Ent.refl
theorem unz : ∀ (k : List Fr) (t : Tr), Ent (tr g o sr (par sr k) t :: cx g o sr (t.ref sr) (t.mx o) k :: l) (tr g o sr sr (plug k t) :: l)
  | [], t => Ent.cons (Ent.starL .refl)
  | f :: k, t => by
    refine Ent.trans (zip_up f k t) ?_
    have := unz k (f.fill t)
    rw [ref_fill] at this
    exact this
theorem col_sr {Q : List PanicEntry → Heap → Prop} {K : Value → Heap → Prop} (S : Sat H l) (k : ∀ H1, Sat H1 l → K (.int .i64 0) H1) : callD Tryz.prog 132 [pA sr, pA sr] H Q K := by
  refine gives_i (v := .int .i64 0) S ?_ (fun H1 _ S1 => k H1 S1)
  refine F132.calls ?_
  unfold F132.go
  refine pq_same ?_
  exact ⟨rfl, ExtH.refl H⟩
theorem col_at {cs : List Value} {T : TypeId} {n : Int} {Q : List PanicEntry → Heap → Prop} {K : Value → Heap → Prop} (S : Sat H l) [A : At b (.cells ⟨cs⟩ T) l] [A2 : At sr senO l] (hn : cs[7]? = some (.int .i64 n)) (hb : b ≠ sr) (k : ∀ H1, Sat H1 l → K (.int .i64 n) H1) : callD Tryz.prog 132 [pA b, pA sr] H Q K := by
  refine gives_i (v := .int .i64 n) S ?_ (fun H1 _ S1 => k H1 S1)
  refine F132.calls ?_
  unfold F132.go
  refine pq_ne hb (A.get S) (A2.get S) ?_
  refine iteB_f rfl ?_
  refine nilD_i ?_
  refine ⟨n, hcell_of (A.get S) hn, ?_⟩
  exact ⟨rfl, ExtH.refl H⟩
theorem exit_ok {ai : It} {ac : Bool} {al ar : Tr} {k : List Fr} {n : Int} {R : Ending → Heap → Prop} (hk : redP k = false)
    (S : Sat H (tr g o sr (par sr k) (.node ai ac al ar) :: cx g o sr ai.r (Tr.mx o (.node ai ac al ar)) k :: pt tp (treO (rootR k ai.r) n sr) :: pt sr senO :: has g :: l))
    (fin : ∀ H1, Sat H1 (tr g o sr sr ((plug k (.node ai ac al ar)).setC false) :: pt tp (treO ((plug k (.node ai ac al ar)).ref sr) n sr) :: pt sr senO :: has g :: l) → R (.returned (.tuple ⟨[]⟩)) H1) :
    F135.L0 (some (aA tp)) (some (aA ai.r)) H R := by
  -- the end: the root turns black
  have last : ∀ H, Sat H (tr g o sr (par sr k) (.node ai ac al ar) :: cx g o sr ai.r (Tr.mx o (.node ai ac al ar)) k :: pt tp (treO (rootR k ai.r) n sr) :: pt sr senO :: has g :: l) →
      nilD (some (aA tp)) fun a36 => ldPtr H a36 fun p30 => nilD p30 fun a37 => st1 H (Addr.add a37 7) (.int .i64 (0 : Int)) fun H12 => R (.returned (.tuple ⟨[]⟩)) H12 := by
    intro H S
    have S1 := S.to (unz k (.node ai ac al ar))
    rw [show rootR k ai.r = (plug k (.node ai ac al ar)).ref sr from (ref_plug (sr := sr) k (.node ai ac al ar)).symm] at S1
    clear S
    generalize hT : plug k (.node ai ac al ar) = T at S1 fin
    cases T with
    | nil =>
      exfalso
      have := congrArg Tr.inL hT
      rw [inL_plug] at this
      simp [Tr.inL] at this
    | node wi wc wl wr =>
      dsimp only [Tr.ref] at S1
      obtain ⟨wm, ow, nw, hw, S2⟩ := tr_open S1
      clear S1
      (repeat (first | (refine Step.go ?_; intros) | refine iteB_t (by decide) ?_ | refine iteB_f (by decide) ?_ | (refine Duo.mk (by first | omega | exact rfl | decide) ?_; intros) | (refine Duo.mk (Clo.mk (by kernel_rfl)) ?_; intros)))
      rename_i H2 S3
      refine fin H2 (S3.to (Ent.trans ?_ (tr_close ow nw hw)))
      iterate 5 (apply Ent.pick; (focus (repeat (first | exact Sel.here | apply Sel.there))))
      exact Ent.refl
  refine F135.L0_step ?_
  unfold F135.L0n
  obtain ⟨am, oa, na, ha, S1⟩ := tr_open S
  clear S
  have back : ∀ H, Sat H (pt ai.r (ndO ai am (al.ref sr) (ar.ref sr) (par sr k) ac) :: tr g o sr ai.r al :: tr g o sr ai.r ar :: cx g o sr ai.r (Tr.mx o (.node ai ac al ar)) k :: pt tp (treO (rootR k ai.r) n sr) :: pt sr senO :: has g :: l) →
      Sat H (tr g o sr (par sr k) (.node ai ac al ar) :: cx g o sr ai.r (Tr.mx o (.node ai ac al ar)) k :: pt tp (treO (rootR k ai.r) n sr) :: pt sr senO :: has g :: l) := fun H S => S.to (tr_close oa na ha)
  (repeat (first | (refine Step.go ?_; intros) | refine iteB_t (by decide) ?_ | refine iteB_f (by decide) ?_ | (refine Duo.mk (by first | omega | exact rfl | decide) ?_; intros) | (refine Duo.mk (Clo.mk (by kernel_rfl)) ?_; intros)))
  cases k with
  | nil =>
    refine col_sr S1 fun H1 S2 => ?_
    refine Step.go ?_
    refine iteB_f (by decide) ?_
    exact last H1 (back H1 S2)
  | cons f k =>
    obtain ⟨fi, fc, fl, fs⟩ := f
    obtain rfl : fc = false := hk
    have S2 := (S1.bring (c := cx g o sr ai.r (Tr.mx o (.node ai ac al ar)) (⟨fi, false, fl, fs⟩ :: k)) (by (repeat (first | exact Sel.here | apply Sel.there)))).star
    obtain ⟨fm, of, nf, hf, S3⟩ := nd_open S2
    clear S2 S1
    have S3 : Sat H (pt fi.r (ndO fi fm (if fl then ai.r else fs.ref sr) (if fl then fs.ref sr else ai.r) (par sr k) false) :: tr g o sr fi.r fs :: cx g o sr fi.r (some (Fr.mx o ⟨fi, false, fl, fs⟩ (Tr.mx o (.node ai ac al ar)))) k :: pt ai.r (ndO ai am (al.ref sr) (ar.ref sr) fi.r ac) :: tr g o sr ai.r al :: tr g o sr ai.r ar :: pt tp (treO (rootR k fi.r) n sr) :: pt sr senO :: has g :: l) := S3
    refine col_at (b := fi.r) (n := 0) S3 rfl nf fun H1 S4 => ?_
    refine Step.go ?_
    refine iteB_f (by decide) ?_
    refine last H1 (back H1 ?_)
    have S5 : Sat H1 (cx g o sr ai.r (Tr.mx o (.node ai ac al ar)) (⟨fi, false, fl, fs⟩ :: k) :: pt ai.r (ndO ai am (al.ref sr) (ar.ref sr) fi.r ac) :: tr g o sr ai.r al :: tr g o sr ai.r ar :: pt tp (treO (rootR k fi.r) n sr) :: pt sr senO :: has g :: l) := S4.to (Ent.star (nd_close of nf hf))
    refine S5.to ?_
    iterate 7 (apply Ent.pick; (focus (repeat (first | exact Sel.here | apply Sel.there))))
    exact Ent.refl
end
end Go.Proofs.YtobolifgehagfaaGreat

set_option linter.unusedVariables false
set_option linter.unusedSimpArgs false
set_option linter.unnecessarySimpa false
namespace Go.Proofs.YtobolifgehagfaaGreat
open Go Go.Den Go.Proofs
section
variable {H : Heap} {l m : List HP} {g : PH} {o : Int} {sr b tp : Nat}
theorem l2_ok {ai Pi gi : It} {ac pc gc : Bool} {al ar B gs : Tr} {k : List Fr} {n : Int} {R : Ending → Heap → Prop}
    (S : Sat H (tr g o sr gi.r (.node Pi pc (.node ai ac al ar) B) :: cx g o sr Pi.r (Tr.mx o (.node Pi pc (.node ai ac al ar) B)) (⟨gi, gc, true, gs⟩ :: k) :: pt tp (treO (rootR k gi.r) n sr) :: pt sr senO :: has g :: l))
    (fin : ∀ H1, Sat H1 (tr g o sr sr ((plug k (.node Pi false (.node ai ac al ar) (.node gi true B gs))).setC false) :: pt tp (treO ((plug k (.node Pi false (.node ai ac al ar) (.node gi true B gs))).ref sr) n sr) :: pt sr senO :: has g :: l) → R (.returned (.tuple ⟨[]⟩)) H1) :
    F135.L2 (some (aA tp)) (some (aA ai.r)) H R := by
  have S1 : Sat H (tr g o sr (par sr k) (.node gi gc (.node Pi pc (.node ai ac al ar) B) gs) :: cx g o sr gi.r (Tr.mx o (.node gi gc (.node Pi pc (.node ai ac al ar) B) gs)) k :: pt tp (treO (rootR k gi.r) n sr) :: pt sr senO :: has g :: l) := S.to (zip_up ⟨gi, gc, true, gs⟩ k (.node Pi pc (.node ai ac al ar) B))
  obtain ⟨gm, og, ng, hg, S2⟩ := tr_open S1
  obtain ⟨Pm, oP, nP, hP, S3⟩ := tr_open (S2.bring (c := tr g o sr gi.r (.node Pi pc (.node ai ac al ar) B)) (by (repeat (first | exact Sel.here | apply Sel.there))))
  obtain ⟨am, oa, na, ha, S4⟩ := tr_open (S3.bring (c := tr g o sr Pi.r (.node ai ac al ar)) (by (repeat (first | exact Sel.here | apply Sel.there))))
  clear S S1 S2 S3
  have T1 : Sat H (pt ai.r (ndO ai am (al.ref sr) (ar.ref sr) Pi.r ac) :: tr g o sr ai.r al :: tr g o sr ai.r ar :: pt Pi.r (ndO Pi Pm ai.r (B.ref sr) gi.r pc) :: tr g o sr Pi.r B :: pt gi.r (ndO gi gm Pi.r (gs.ref sr) (par sr k) gc) :: tr g o sr gi.r gs :: cx g o sr gi.r (Tr.mx o (.node gi gc (.node Pi pc (.node ai ac al ar) B) gs)) k :: pt tp (treO (rootR k gi.r) n sr) :: pt sr senO :: has g :: l) := by
    refine S4.to ?_
    iterate 11 (apply Ent.pick; (focus (repeat (first | exact Sel.here | apply Sel.there))))
    exact Ent.refl
  clear S4
  refine F135.L2_step ?_
  unfold F135.L2n
  (repeat (first | (refine Step.go ?_; intros) | refine iteB_t (by decide) ?_ | refine iteB_f (by decide) ?_ | (refine Duo.mk (by first | omega | exact rfl | decide) ?_; intros) | (refine Duo.mk (Clo.mk (by kernel_rfl)) ?_; intros)))
  rename_i H1 S5
  have T2 : Sat H1 (tr g o sr (par sr k) (.node gi true (.node Pi false (.node ai ac al ar) B) gs) :: cx g o sr gi.r (Tr.mx o (.node gi true (.node Pi false (.node ai ac al ar) B) gs)) k :: pt tp (treO (rootR k gi.r) n sr) :: pt sr senO :: has g :: l) := by
    have U1 : Sat H1 (tr g o sr Pi.r (.node ai ac al ar) :: pt Pi.r (ndO Pi Pm ai.r (B.ref sr) gi.r false) :: tr g o sr Pi.r B :: pt gi.r (ndO gi gm Pi.r (gs.ref sr) (par sr k) true) :: tr g o sr gi.r gs :: cx g o sr gi.r (Tr.mx o (.node gi gc (.node Pi pc (.node ai ac al ar) B) gs)) k :: pt tp (treO (rootR k gi.r) n sr) :: pt sr senO :: has g :: l) := by
      refine S5.to (Ent.trans ?_ (tr_close oa na ha))
      iterate 11 (apply Ent.pick; (focus (repeat (first | exact Sel.here | apply Sel.there))))
      exact Ent.refl
    have U2 : Sat H1 (tr g o sr gi.r (.node Pi false (.node ai ac al ar) B) :: pt gi.r (ndO gi gm Pi.r (gs.ref sr) (par sr k) true) :: tr g o sr gi.r gs :: cx g o sr gi.r (Tr.mx o (.node gi gc (.node Pi pc (.node ai ac al ar) B) gs)) k :: pt tp (treO (rootR k gi.r) n sr) :: pt sr senO :: has g :: l) := by
      refine U1.to (Ent.trans ?_ (tr_close oP nP hP))
      iterate 8 (apply Ent.pick; (focus (repeat (first | exact Sel.here | apply Sel.there))))
      exact Ent.refl
    refine U2.to (Ent.trans ?_ (tr_close og ng hg))
    iterate 7 (apply Ent.pick; (focus (repeat (first | exact Sel.here | apply Sel.there))))
    exact Ent.refl
  clear S5 T1
  refine call_of (rotR_ok T2) ?_
  rintro _ H2 ⟨rfl, S6⟩
  (repeat (first | (refine Step.go ?_; intros) | refine iteB_t (by decide) ?_ | refine iteB_f (by decide) ?_ | (refine Duo.mk (by first | omega | exact rfl | decide) ?_; intros) | (refine Duo.mk (Clo.mk (by kernel_rfl)) ?_; intros)))
  exact exit_ok (k := ⟨Pi, false, true, (.node gi true B gs)⟩ :: k) rfl (S6.to (zip_down ⟨Pi, false, true, (.node gi true B gs)⟩ k (.node ai ac al ar))) fin
theorem l1_ok {ai Pi gi : It} {ac pc gc : Bool} {al ar B gs : Tr} {k : List Fr} {n : Int} {R : Ending → Heap → Prop}
    (S : Sat H (tr g o sr gi.r (.node Pi pc B (.node ai ac al ar)) :: cx g o sr Pi.r (Tr.mx o (.node Pi pc B (.node ai ac al ar))) (⟨gi, gc, false, gs⟩ :: k) :: pt tp (treO (rootR k gi.r) n sr) :: pt sr senO :: has g :: l))
    (fin : ∀ H1, Sat H1 (tr g o sr sr ((plug k (.node Pi false (.node gi true gs B) (.node ai ac al ar))).setC false) :: pt tp (treO ((plug k (.node Pi false (.node gi true gs B) (.node ai ac al ar))).ref sr) n sr) :: pt sr senO :: has g :: l) → R (.returned (.tuple ⟨[]⟩)) H1) :
    F135.L1 (some (aA tp)) (some (aA ai.r)) H R := by
  have S1 : Sat H (tr g o sr (par sr k) (.node gi gc gs (.node Pi pc B (.node ai ac al ar))) :: cx g o sr gi.r (Tr.mx o (.node gi gc gs (.node Pi pc B (.node ai ac al ar)))) k :: pt tp (treO (rootR k gi.r) n sr) :: pt sr senO :: has g :: l) := S.to (zip_up ⟨gi, gc, false, gs⟩ k (.node Pi pc B (.node ai ac al ar)))
  obtain ⟨gm, og, ng, hg, S2⟩ := tr_open S1
  obtain ⟨Pm, oP, nP, hP, S3⟩ := tr_open (S2.bring (c := tr g o sr gi.r (.node Pi pc B (.node ai ac al ar))) (by (repeat (first | exact Sel.here | apply Sel.there))))
  obtain ⟨am, oa, na, ha, S4⟩ := tr_open (S3.bring (c := tr g o sr Pi.r (.node ai ac al ar)) (by (repeat (first | exact Sel.here | apply Sel.there))))
  clear S S1 S2 S3
  have T1 : Sat H (pt ai.r (ndO ai am (al.ref sr) (ar.ref sr) Pi.r ac) :: tr g o sr ai.r al :: tr g o sr ai.r ar :: pt Pi.r (ndO Pi Pm (B.ref sr) ai.r gi.r pc) :: tr g o sr Pi.r B :: pt gi.r (ndO gi gm (gs.ref sr) Pi.r (par sr k) gc) :: tr g o sr gi.r gs :: cx g o sr gi.r (Tr.mx o (.node gi gc gs (.node Pi pc B (.node ai ac al ar)))) k :: pt tp (treO (rootR k gi.r) n sr) :: pt sr senO :: has g :: l) := by
    refine S4.to ?_
    iterate 11 (apply Ent.pick; (focus (repeat (first | exact Sel.here | apply Sel.there))))
    exact Ent.refl
  clear S4
  refine F135.L1_step ?_
  unfold F135.L1n
  (repeat (first | (refine Step.go ?_; intros) | refine iteB_t (by decide) ?_ | refine iteB_f (by decide) ?_ | (refine Duo.mk (by first | omega | exact rfl | decide) ?_; intros) | (refine Duo.mk (Clo.mk (by kernel_rfl)) ?_; intros)))
  rename_i H1 S5
  have T2 : Sat H1 (tr g o sr (par sr k) (.node gi true gs (.node Pi false B (.node ai ac al ar))) :: cx g o sr gi.r (Tr.mx o (.node gi true gs (.node Pi false B (.node ai ac al ar)))) k :: pt tp (treO (rootR k gi.r) n sr) :: pt sr senO :: has g :: l) := by
    have U1 : Sat H1 (tr g o sr Pi.r (.node ai ac al ar) :: pt Pi.r (ndO Pi Pm (B.ref sr) ai.r gi.r false) :: tr g o sr Pi.r B :: pt gi.r (ndO gi gm (gs.ref sr) Pi.r (par sr k) true) :: tr g o sr gi.r gs :: cx g o sr gi.r (Tr.mx o (.node gi gc gs (.node Pi pc B (.node ai ac al ar)))) k :: pt tp (treO (rootR k gi.r) n sr) :: pt sr senO :: has g :: l) := by
      refine S5.to (Ent.trans ?_ (tr_close oa na ha))
      iterate 11 (apply Ent.pick; (focus (repeat (first | exact Sel.here | apply Sel.there))))
      exact Ent.refl
    have U2 : Sat H1 (tr g o sr gi.r (.node Pi false B (.node ai ac al ar)) :: pt gi.r (ndO gi gm (gs.ref sr) Pi.r (par sr k) true) :: tr g o sr gi.r gs :: cx g o sr gi.r (Tr.mx o (.node gi gc gs (.node Pi pc B (.node ai ac al ar)))) k :: pt tp (treO (rootR k gi.r) n sr) :: pt sr senO :: has g :: l) := by
      refine U1.to (Ent.trans ?_ (tr_close oP nP hP))
      iterate 8 (apply Ent.pick; (focus (repeat (first | exact Sel.here | apply Sel.there))))
      exact Ent.refl
    refine U2.to (Ent.trans ?_ (tr_close og ng hg))
    iterate 7 (apply Ent.pick; (focus (repeat (first | exact Sel.here | apply Sel.there))))
    exact Ent.refl
  clear S5 T1
  refine call_of (rotL_ok T2) ?_
  rintro _ H2 ⟨rfl, S6⟩
  (repeat (first | (refine Step.go ?_; intros) | refine iteB_t (by decide) ?_ | refine iteB_f (by decide) ?_ | (refine Duo.mk (by first | omega | exact rfl | decide) ?_; intros) | (refine Duo.mk (Clo.mk (by kernel_rfl)) ?_; intros)))
  exact exit_ok (k := ⟨Pi, false, false, (.node gi true gs B)⟩ :: k) rfl (S6.to (zip_down ⟨Pi, false, false, (.node gi true gs B)⟩ k (.node ai ac al ar))) fin
theorem colT {t : Tr} {p : Nat} {r : List HP} {Q : List PanicEntry → Heap → Prop} {K : Value → Heap → Prop} (S : Sat H l) (s : Sel (tr g o sr p t) l r) [A2 : At sr senO l] (k : ∀ H1, Sat H1 l → K (.int .i64 (colI t.red)) H1) : callD Tryz.prog 132 [pA (t.ref sr), pA sr] H Q K := by
  cases t with
  | nil => exact col_sr S k
  | node it c u v =>
    obtain ⟨m, h1, h2, h3, S2⟩ := tr_open (S.bring s)
    refine gives_i (v := .int .i64 (colI c)) S ?_ (fun H1 _ S1 => k H1 S1)
    refine F132.calls ?_
    unfold F132.go
    refine pq_ne h2 (S2.at_ (r := it.r) (o := ndO it m (u.ref sr) (v.ref sr) p c) (by simp)) (A2.get S) ?_
    refine iteB_f rfl ?_
    refine nilD_i ?_
    refine ⟨colI c, hcell_of (S2.at_ (r := it.r) (o := ndO it m (u.ref sr) (v.ref sr) p c) (by simp)) rfl, ?_⟩
    exact ⟨rfl, ExtH.refl H⟩
theorem pq_refS {ca : List Value} {T : TypeId} {p : Nat} {t : Tr} {r1 r2 r3 : List HP} {K : Bool → Prop} (S : Sat H l) (s1 : Sel (pt b (.cells ⟨ca⟩ T)) l r1) (s2 : Sel (tr g o sr p t) r1 r2) (s3 : Sel (pt sr senO) r2 r3) (hb : b ≠ sr) (k : K false) : pqD H (some (aA b)) (some (aA (t.ref sr))) K :=
  pq_ref (l := []) (S.to (Ent.pick s1 (Ent.pick s2 (Ent.pick s3 Ent.nil)))) hb k
theorem step_Lo {zi fi gi : It} {gc : Bool} {zl zr fs gs : Tr} {k : List Fr} {n : Int} {R : Ending → Heap → Prop}
    (S : Sat H (tr g o sr fi.r (.node zi true zl zr) :: cx g o sr zi.r (Tr.mx o (.node zi true zl zr)) (⟨fi, true, true, fs⟩ :: ⟨gi, gc, true, gs⟩ :: k) :: pt tp (treO (rootR k gi.r) n sr) :: pt sr senO :: has g :: l))
    (rec : ∀ ui ul ur H1, gs = (.node ui true ul ur) → Sat H1 (tr g o sr (par sr k) (.node gi true (.node fi false (.node zi true zl zr) fs) (.node ui false ul ur)) :: cx g o sr gi.r (Tr.mx o (.node gi true (.node fi false (.node zi true zl zr) fs) (.node ui false ul ur))) k :: pt tp (treO (rootR k gi.r) n sr) :: pt sr senO :: has g :: l) → F135.L0 (some (aA tp)) (some (aA gi.r)) H1 R)
    (fin : ∀ H1, gs.red = false → Sat H1 (tr g o sr sr ((plug k (turnI ⟨gi, gc, true, gs⟩ ⟨fi, true, true, fs⟩ (.node zi true zl zr))).setC false) :: pt tp (treO ((plug k (turnI ⟨gi, gc, true, gs⟩ ⟨fi, true, true, fs⟩ (.node zi true zl zr))).ref sr) n sr) :: pt sr senO :: has g :: l) → R (.returned (.tuple ⟨[]⟩)) H1) :
    F135.L0 (some (aA tp)) (some (aA zi.r)) H R := by
  have S1 : Sat H (tr g o sr (par sr k) (.node gi gc (.node fi true (.node zi true zl zr) fs) gs) :: cx g o sr gi.r (Tr.mx o (.node gi gc (.node fi true (.node zi true zl zr) fs) gs)) k :: pt tp (treO (rootR k gi.r) n sr) :: pt sr senO :: has g :: l) := (S.to (zip_up ⟨fi, true, true, fs⟩ (⟨gi, gc, true, gs⟩ :: k) (.node zi true zl zr))).to (zip_up ⟨gi, gc, true, gs⟩ k (.node fi true (.node zi true zl zr) fs))
  obtain ⟨gm, og, ng, hg, S2⟩ := tr_open S1
  obtain ⟨fm, of, nf, hf, S3⟩ := tr_open (S2.bring (c := tr g o sr gi.r (.node fi true (.node zi true zl zr) fs)) (by (repeat (first | exact Sel.here | apply Sel.there))))
  obtain ⟨zm, oz, nz, hz, S4⟩ := tr_open (S3.bring (c := tr g o sr fi.r (.node zi true zl zr)) (by (repeat (first | exact Sel.here | apply Sel.there))))
  clear S S1 S2 S3
  have T1 : Sat H (pt zi.r (ndO zi zm (zl.ref sr) (zr.ref sr) fi.r true) :: tr g o sr zi.r zl :: tr g o sr zi.r zr :: pt fi.r (ndO fi fm zi.r (fs.ref sr) gi.r true) :: tr g o sr fi.r fs :: pt gi.r (ndO gi gm fi.r (gs.ref sr) (par sr k) gc) :: tr g o sr gi.r gs :: cx g o sr gi.r (Tr.mx o (.node gi gc (.node fi true (.node zi true zl zr) fs) gs)) k :: pt tp (treO (rootR k gi.r) n sr) :: pt sr senO :: has g :: l) := by
    refine S4.to ?_
    iterate 11 (apply Ent.pick; (focus (repeat (first | exact Sel.here | apply Sel.there))))
    exact Ent.refl
  clear S4
  have zipped : ∀ H, Sat H (pt zi.r (ndO zi zm (zl.ref sr) (zr.ref sr) fi.r true) :: tr g o sr zi.r zl :: tr g o sr zi.r zr :: pt fi.r (ndO fi fm zi.r (fs.ref sr) gi.r true) :: tr g o sr fi.r fs :: pt gi.r (ndO gi gm fi.r (gs.ref sr) (par sr k) gc) :: tr g o sr gi.r gs :: cx g o sr gi.r (Tr.mx o (.node gi gc (.node fi true (.node zi true zl zr) fs) gs)) k :: pt tp (treO (rootR k gi.r) n sr) :: pt sr senO :: has g :: l) → Sat H (tr g o sr gi.r (.node fi true (.node zi true zl zr) fs) :: cx g o sr fi.r (Tr.mx o (.node fi true (.node zi true zl zr) fs)) (⟨gi, gc, true, gs⟩ :: k) :: pt tp (treO (rootR k gi.r) n sr) :: pt sr senO :: has g :: l) := by
    intro H S
    have U1 : Sat H (tr g o sr fi.r (.node zi true zl zr) :: pt fi.r (ndO fi fm zi.r (fs.ref sr) gi.r true) :: tr g o sr fi.r fs :: pt gi.r (ndO gi gm fi.r (gs.ref sr) (par sr k) gc) :: tr g o sr gi.r gs :: cx g o sr gi.r (Tr.mx o (.node gi gc (.node fi true (.node zi true zl zr) fs) gs)) k :: pt tp (treO (rootR k gi.r) n sr) :: pt sr senO :: has g :: l) := S.to (tr_close oz nz hz)
    have U2 : Sat H (tr g o sr gi.r (.node fi true (.node zi true zl zr) fs) :: pt gi.r (ndO gi gm fi.r (gs.ref sr) (par sr k) gc) :: tr g o sr gi.r gs :: cx g o sr gi.r (Tr.mx o (.node gi gc (.node fi true (.node zi true zl zr) fs) gs)) k :: pt tp (treO (rootR k gi.r) n sr) :: pt sr senO :: has g :: l) := by
      refine U1.to (Ent.trans ?_ (tr_close of nf hf))
      iterate 8 (apply Ent.pick; (focus (repeat (first | exact Sel.here | apply Sel.there))))
      exact Ent.refl
    have U3 : Sat H (tr g o sr (par sr k) (.node gi gc (.node fi true (.node zi true zl zr) fs) gs) :: cx g o sr gi.r (Tr.mx o (.node gi gc (.node fi true (.node zi true zl zr) fs) gs)) k :: pt tp (treO (rootR k gi.r) n sr) :: pt sr senO :: has g :: l) := by
      refine U2.to (Ent.trans ?_ (tr_close og ng hg))
      iterate 7 (apply Ent.pick; (focus (repeat (first | exact Sel.here | apply Sel.there))))
      exact Ent.refl
    exact U3.to (zip_down ⟨gi, gc, true, gs⟩ k (.node fi true (.node zi true zl zr) fs))
  refine F135.L0_step ?_
  unfold F135.L0n
  (repeat (first | (refine Step.go ?_; intros) | refine iteB_t (by decide) ?_ | refine iteB_f (by decide) ?_ | (refine Duo.mk (by first | omega | exact rfl | decide) ?_; intros) | (refine Duo.mk (Clo.mk (by kernel_rfl)) ?_; intros)))
  refine col_at (b := fi.r) (n := 1) T1 rfl nf fun H1 T2 => ?_
  refine Step.go ?_
  refine iteB_t rfl ?_
  (repeat (first | (refine Step.go ?_; intros) | refine iteB_t (by decide) ?_ | refine iteB_f (by decide) ?_ | (refine Duo.mk (by first | omega | exact rfl | decide) ?_; intros) | (refine Duo.mk (Clo.mk (by kernel_rfl)) ?_; intros)))
  refine pq_same ?_
  (repeat (first | (refine Step.go ?_; intros) | refine iteB_t (by decide) ?_ | refine iteB_f (by decide) ?_ | (refine Duo.mk (by first | omega | exact rfl | decide) ?_; intros) | (refine Duo.mk (Clo.mk (by kernel_rfl)) ?_; intros)))
  refine colT (t := gs) (p := gi.r) T2 (by (repeat (first | exact Sel.here | apply Sel.there))) fun H2 T3 => ?_
  refine Step.go ?_
  cases gs with
  | nil =>
    have hu : Tr.red .nil = false := rfl
    refine iteB_f rfl ?_
    (repeat (first | (refine Step.go ?_; intros) | refine iteB_t (by decide) ?_ | refine iteB_f (by decide) ?_ | (refine Duo.mk (by first | omega | exact rfl | decide) ?_; intros) | (refine Duo.mk (Clo.mk (by kernel_rfl)) ?_; intros)))
    refine pq_refS (t := fs) (p := fi.r) T3 (by (repeat (first | exact Sel.here | apply Sel.there))) (by (repeat (first | exact Sel.here | apply Sel.there))) (by (repeat (first | exact Sel.here | apply Sel.there))) nz ?_
    (repeat (first | (refine Step.go ?_; intros) | refine iteB_t (by decide) ?_ | refine iteB_f (by decide) ?_ | (refine Duo.mk (by first | omega | exact rfl | decide) ?_; intros) | (refine Duo.mk (Clo.mk (by kernel_rfl)) ?_; intros)))
    exact l2_ok (ai := zi) (ac := true) (al := zl) (ar := zr) (Pi := fi) (pc := true) (B := fs) (gi := gi) (gc := gc) (gs := .nil) (k := k) (n := n) (zipped _ T3) (fun H3 S9 => fin H3 hu (by exact S9))
  | node ui uc ul ur =>
    cases uc with
    | false =>
      have hu : Tr.red (.node ui false ul ur) = false := rfl
      refine iteB_f rfl ?_
      (repeat (first | (refine Step.go ?_; intros) | refine iteB_t (by decide) ?_ | refine iteB_f (by decide) ?_ | (refine Duo.mk (by first | omega | exact rfl | decide) ?_; intros) | (refine Duo.mk (Clo.mk (by kernel_rfl)) ?_; intros)))
      refine pq_refS (t := fs) (p := fi.r) T3 (by (repeat (first | exact Sel.here | apply Sel.there))) (by (repeat (first | exact Sel.here | apply Sel.there))) (by (repeat (first | exact Sel.here | apply Sel.there))) nz ?_
      (repeat (first | (refine Step.go ?_; intros) | refine iteB_t (by decide) ?_ | refine iteB_f (by decide) ?_ | (refine Duo.mk (by first | omega | exact rfl | decide) ?_; intros) | (refine Duo.mk (Clo.mk (by kernel_rfl)) ?_; intros)))
      exact l2_ok (ai := zi) (ac := true) (al := zl) (ar := zr) (Pi := fi) (pc := true) (B := fs) (gi := gi) (gc := gc) (gs := .node ui false ul ur) (k := k) (n := n) (zipped _ T3) (fun H3 S9 => fin H3 hu (by exact S9))
    | true =>
      refine iteB_t rfl ?_
      obtain ⟨um, ou, nu, hu, T4⟩ := tr_open (T3.bring (c := tr g o sr gi.r (.node ui true ul ur)) (by (repeat (first | exact Sel.here | apply Sel.there))))
      dsimp only [Tr.ref] at T4 ⊢
      clear T1 T2 T3
      (repeat (first | (refine Step.go ?_; intros) | refine iteB_t (by decide) ?_ | refine iteB_f (by decide) ?_ | (refine Duo.mk (by first | omega | exact rfl | decide) ?_; intros) | (refine Duo.mk (Clo.mk (by kernel_rfl)) ?_; intros)))
      rename_i H3 T5
      refine rec ui ul ur H3 rfl ?_
      have U0 : Sat H3 (tr g o sr fi.r (.node zi true zl zr) :: pt fi.r (ndO fi fm zi.r (fs.ref sr) gi.r false) :: tr g o sr fi.r fs :: pt gi.r (ndO gi gm fi.r ui.r (par sr k) true) :: pt ui.r (ndO ui um (ul.ref sr) (ur.ref sr) gi.r false) :: tr g o sr ui.r ul :: tr g o sr ui.r ur :: cx g o sr gi.r (Tr.mx o (.node gi gc (.node fi true (.node zi true zl zr) fs) (.node ui true ul ur))) k :: pt tp (treO (rootR k gi.r) n sr) :: pt sr senO :: has g :: l) := by
        refine T5.to (Ent.trans ?_ (tr_close oz nz hz))
        iterate 13 (apply Ent.pick; (focus (repeat (first | exact Sel.here | apply Sel.there))))
        exact Ent.refl
      have U1 : Sat H3 (tr g o sr gi.r (.node fi false (.node zi true zl zr) fs) :: pt gi.r (ndO gi gm fi.r ui.r (par sr k) true) :: pt ui.r (ndO ui um (ul.ref sr) (ur.ref sr) gi.r false) :: tr g o sr ui.r ul :: tr g o sr ui.r ur :: cx g o sr gi.r (Tr.mx o (.node gi gc (.node fi true (.node zi true zl zr) fs) (.node ui true ul ur))) k :: pt tp (treO (rootR k gi.r) n sr) :: pt sr senO :: has g :: l) := by
        refine U0.to (Ent.trans ?_ (tr_close of nf hf))
        iterate 10 (apply Ent.pick; (focus (repeat (first | exact Sel.here | apply Sel.there))))
        exact Ent.refl
      have U2 : Sat H3 (tr g o sr gi.r (.node ui false ul ur) :: tr g o sr gi.r (.node fi false (.node zi true zl zr) fs) :: pt gi.r (ndO gi gm fi.r ui.r (par sr k) true) :: cx g o sr gi.r (Tr.mx o (.node gi gc (.node fi true (.node zi true zl zr) fs) (.node ui true ul ur))) k :: pt tp (treO (rootR k gi.r) n sr) :: pt sr senO :: has g :: l) := by
        refine U1.to (Ent.trans ?_ (tr_close ou nu hu))
        iterate 8 (apply Ent.pick; (focus (repeat (first | exact Sel.here | apply Sel.there))))
        exact Ent.refl
      refine U2.to (Ent.trans ?_ (tr_close og ng hg))
      iterate 7 (apply Ent.pick; (focus (repeat (first | exact Sel.here | apply Sel.there))))
      exact Ent.refl
theorem step_Li {zi fi gi : It} {gc : Bool} {zl zr fs gs : Tr} {k : List Fr} {n : Int} {R : Ending → Heap → Prop}
    (S : Sat H (tr g o sr fi.r (.node zi true zl zr) :: cx g o sr zi.r (Tr.mx o (.node zi true zl zr)) (⟨fi, true, false, fs⟩ :: ⟨gi, gc, true, gs⟩ :: k) :: pt tp (treO (rootR k gi.r) n sr) :: pt sr senO :: has g :: l))
    (rec : ∀ ui ul ur H1, gs = (.node ui true ul ur) → Sat H1 (tr g o sr (par sr k) (.node gi true (.node fi false fs (.node zi true zl zr)) (.node ui false ul ur)) :: cx g o sr gi.r (Tr.mx o (.node gi true (.node fi false fs (.node zi true zl zr)) (.node ui false ul ur))) k :: pt tp (treO (rootR k gi.r) n sr) :: pt sr senO :: has g :: l) → F135.L0 (some (aA tp)) (some (aA gi.r)) H1 R)
    (fin : ∀ H1, gs.red = false → Sat H1 (tr g o sr sr ((plug k (turnI ⟨gi, gc, true, gs⟩ ⟨fi, true, false, fs⟩ (.node zi true zl zr))).setC false) :: pt tp (treO ((plug k (turnI ⟨gi, gc, true, gs⟩ ⟨fi, true, false, fs⟩ (.node zi true zl zr))).ref sr) n sr) :: pt sr senO :: has g :: l) → R (.returned (.tuple ⟨[]⟩)) H1) :
    F135.L0 (some (aA tp)) (some (aA zi.r)) H R := by
  have S1 : Sat H (tr g o sr (par sr k) (.node gi gc (.node fi true fs (.node zi true zl zr)) gs) :: cx g o sr gi.r (Tr.mx o (.node gi gc (.node fi true fs (.node zi true zl zr)) gs)) k :: pt tp (treO (rootR k gi.r) n sr) :: pt sr senO :: has g :: l) := (S.to (zip_up ⟨fi, true, false, fs⟩ (⟨gi, gc, true, gs⟩ :: k) (.node zi true zl zr))).to (zip_up ⟨gi, gc, true, gs⟩ k (.node fi true fs (.node zi true zl zr)))
  obtain ⟨gm, og, ng, hg, S2⟩ := tr_open S1
  obtain ⟨fm, of, nf, hf, S3⟩ := tr_open (S2.bring (c := tr g o sr gi.r (.node fi true fs (.node zi true zl zr))) (by (repeat (first | exact Sel.here | apply Sel.there))))
  obtain ⟨zm, oz, nz, hz, S4⟩ := tr_open (S3.bring (c := tr g o sr fi.r (.node zi true zl zr)) (by (repeat (first | exact Sel.here | apply Sel.there))))
  clear S S1 S2 S3
  have T1 : Sat H (pt zi.r (ndO zi zm (zl.ref sr) (zr.ref sr) fi.r true) :: tr g o sr zi.r zl :: tr g o sr zi.r zr :: pt fi.r (ndO fi fm (fs.ref sr) zi.r gi.r true) :: tr g o sr fi.r fs :: pt gi.r (ndO gi gm fi.r (gs.ref sr) (par sr k) gc) :: tr g o sr gi.r gs :: cx g o sr gi.r (Tr.mx o (.node gi gc (.node fi true fs (.node zi true zl zr)) gs)) k :: pt tp (treO (rootR k gi.r) n sr) :: pt sr senO :: has g :: l) := by
    refine S4.to ?_
    iterate 11 (apply Ent.pick; (focus (repeat (first | exact Sel.here | apply Sel.there))))
    exact Ent.refl
  clear S4
  have zipped : ∀ H, Sat H (pt zi.r (ndO zi zm (zl.ref sr) (zr.ref sr) fi.r true) :: tr g o sr zi.r zl :: tr g o sr zi.r zr :: pt fi.r (ndO fi fm (fs.ref sr) zi.r gi.r true) :: tr g o sr fi.r fs :: pt gi.r (ndO gi gm fi.r (gs.ref sr) (par sr k) gc) :: tr g o sr gi.r gs :: cx g o sr gi.r (Tr.mx o (.node gi gc (.node fi true fs (.node zi true zl zr)) gs)) k :: pt tp (treO (rootR k gi.r) n sr) :: pt sr senO :: has g :: l) → Sat H (tr g o sr gi.r (.node fi true fs (.node zi true zl zr)) :: cx g o sr fi.r (Tr.mx o (.node fi true fs (.node zi true zl zr))) (⟨gi, gc, true, gs⟩ :: k) :: pt tp (treO (rootR k gi.r) n sr) :: pt sr senO :: has g :: l) := by
    intro H S
    have U1 : Sat H (tr g o sr fi.r (.node zi true zl zr) :: pt fi.r (ndO fi fm (fs.ref sr) zi.r gi.r true) :: tr g o sr fi.r fs :: pt gi.r (ndO gi gm fi.r (gs.ref sr) (par sr k) gc) :: tr g o sr gi.r gs :: cx g o sr gi.r (Tr.mx o (.node gi gc (.node fi true fs (.node zi true zl zr)) gs)) k :: pt tp (treO (rootR k gi.r) n sr) :: pt sr senO :: has g :: l) := S.to (tr_close oz nz hz)
    have U2 : Sat H (tr g o sr gi.r (.node fi true fs (.node zi true zl zr)) :: pt gi.r (ndO gi gm fi.r (gs.ref sr) (par sr k) gc) :: tr g o sr gi.r gs :: cx g o sr gi.r (Tr.mx o (.node gi gc (.node fi true fs (.node zi true zl zr)) gs)) k :: pt tp (treO (rootR k gi.r) n sr) :: pt sr senO :: has g :: l) := by
      refine U1.to (Ent.trans ?_ (tr_close of nf hf))
      iterate 8 (apply Ent.pick; (focus (repeat (first | exact Sel.here | apply Sel.there))))
      exact Ent.refl
    have U3 : Sat H (tr g o sr (par sr k) (.node gi gc (.node fi true fs (.node zi true zl zr)) gs) :: cx g o sr gi.r (Tr.mx o (.node gi gc (.node fi true fs (.node zi true zl zr)) gs)) k :: pt tp (treO (rootR k gi.r) n sr) :: pt sr senO :: has g :: l) := by
      refine U2.to (Ent.trans ?_ (tr_close og ng hg))
      iterate 7 (apply Ent.pick; (focus (repeat (first | exact Sel.here | apply Sel.there))))
      exact Ent.refl
    exact U3.to (zip_down ⟨gi, gc, true, gs⟩ k (.node fi true fs (.node zi true zl zr)))
  refine F135.L0_step ?_
  unfold F135.L0n
  (repeat (first | (refine Step.go ?_; intros) | refine iteB_t (by decide) ?_ | refine iteB_f (by decide) ?_ | (refine Duo.mk (by first | omega | exact rfl | decide) ?_; intros) | (refine Duo.mk (Clo.mk (by kernel_rfl)) ?_; intros)))
  refine col_at (b := fi.r) (n := 1) T1 rfl nf fun H1 T2 => ?_
  refine Step.go ?_
  refine iteB_t rfl ?_
  (repeat (first | (refine Step.go ?_; intros) | refine iteB_t (by decide) ?_ | refine iteB_f (by decide) ?_ | (refine Duo.mk (by first | omega | exact rfl | decide) ?_; intros) | (refine Duo.mk (Clo.mk (by kernel_rfl)) ?_; intros)))
  refine pq_same ?_
  (repeat (first | (refine Step.go ?_; intros) | refine iteB_t (by decide) ?_ | refine iteB_f (by decide) ?_ | (refine Duo.mk (by first | omega | exact rfl | decide) ?_; intros) | (refine Duo.mk (Clo.mk (by kernel_rfl)) ?_; intros)))
  refine colT (t := gs) (p := gi.r) T2 (by (repeat (first | exact Sel.here | apply Sel.there))) fun H2 T3 => ?_
  refine Step.go ?_
  cases gs with
  | nil =>
    have hu : Tr.red .nil = false := rfl
    refine iteB_f rfl ?_
    (repeat (first | (refine Step.go ?_; intros) | refine iteB_t (by decide) ?_ | refine iteB_f (by decide) ?_ | (refine Duo.mk (by first | omega | exact rfl | decide) ?_; intros) | (refine Duo.mk (Clo.mk (by kernel_rfl)) ?_; intros)))
    refine pq_same ?_
    (repeat (first | (refine Step.go ?_; intros) | refine iteB_t (by decide) ?_ | refine iteB_f (by decide) ?_ | (refine Duo.mk (by first | omega | exact rfl | decide) ?_; intros) | (refine Duo.mk (Clo.mk (by kernel_rfl)) ?_; intros)))
    refine call_of (rotL_ok (k := ⟨gi, gc, true, .nil⟩ :: k) (zipped _ T3)) ?_
    rintro _ H3 ⟨rfl, S8⟩
    (repeat (first | (refine Step.go ?_; intros) | refine iteB_t (by decide) ?_ | refine iteB_f (by decide) ?_ | (refine Duo.mk (by first | omega | exact rfl | decide) ?_; intros) | (refine Duo.mk (Clo.mk (by kernel_rfl)) ?_; intros)))
    exact l2_ok (ai := fi) (ac := true) (Pi := zi) (pc := true) (B := zr) (gi := gi) (gc := gc) (gs := .nil) (k := k) (n := n) S8 (fun H4 S9 => fin H4 hu (by exact S9))
  | node ui uc ul ur =>
    cases uc with
    | false =>
      have hu : Tr.red (.node ui false ul ur) = false := rfl
      refine iteB_f rfl ?_
      (repeat (first | (refine Step.go ?_; intros) | refine iteB_t (by decide) ?_ | refine iteB_f (by decide) ?_ | (refine Duo.mk (by first | omega | exact rfl | decide) ?_; intros) | (refine Duo.mk (Clo.mk (by kernel_rfl)) ?_; intros)))
      refine pq_same ?_
      (repeat (first | (refine Step.go ?_; intros) | refine iteB_t (by decide) ?_ | refine iteB_f (by decide) ?_ | (refine Duo.mk (by first | omega | exact rfl | decide) ?_; intros) | (refine Duo.mk (Clo.mk (by kernel_rfl)) ?_; intros)))
      refine call_of (rotL_ok (k := ⟨gi, gc, true, .node ui false ul ur⟩ :: k) (zipped _ T3)) ?_
      rintro _ H3 ⟨rfl, S8⟩
      (repeat (first | (refine Step.go ?_; intros) | refine iteB_t (by decide) ?_ | refine iteB_f (by decide) ?_ | (refine Duo.mk (by first | omega | exact rfl | decide) ?_; intros) | (refine Duo.mk (Clo.mk (by kernel_rfl)) ?_; intros)))
      exact l2_ok (ai := fi) (ac := true) (Pi := zi) (pc := true) (B := zr) (gi := gi) (gc := gc) (gs := .node ui false ul ur) (k := k) (n := n) S8 (fun H4 S9 => fin H4 hu (by exact S9))
    | true =>
      refine iteB_t rfl ?_
      obtain ⟨um, ou, nu, hu, T4⟩ := tr_open (T3.bring (c := tr g o sr gi.r (.node ui true ul ur)) (by (repeat (first | exact Sel.here | apply Sel.there))))
      dsimp only [Tr.ref] at T4 ⊢
      clear T1 T2 T3
      (repeat (first | (refine Step.go ?_; intros) | refine iteB_t (by decide) ?_ | refine iteB_f (by decide) ?_ | (refine Duo.mk (by first | omega | exact rfl | decide) ?_; intros) | (refine Duo.mk (Clo.mk (by kernel_rfl)) ?_; intros)))
      rename_i H3 T5
      refine rec ui ul ur H3 rfl ?_
      have U0 : Sat H3 (tr g o sr fi.r (.node zi true zl zr) :: pt fi.r (ndO fi fm (fs.ref sr) zi.r gi.r false) :: tr g o sr fi.r fs :: pt gi.r (ndO gi gm fi.r ui.r (par sr k) true) :: pt ui.r (ndO ui um (ul.ref sr) (ur.ref sr) gi.r false) :: tr g o sr ui.r ul :: tr g o sr ui.r ur :: cx g o sr gi.r (Tr.mx o (.node gi gc (.node fi true fs (.node zi true zl zr)) (.node ui true ul ur))) k :: pt tp (treO (rootR k gi.r) n sr) :: pt sr senO :: has g :: l) := by
        refine T5.to (Ent.trans ?_ (tr_close oz nz hz))
        iterate 13 (apply Ent.pick; (focus (repeat (first | exact Sel.here | apply Sel.there))))
        exact Ent.refl
      have U1 : Sat H3 (tr g o sr gi.r (.node fi false fs (.node zi true zl zr)) :: pt gi.r (ndO gi gm fi.r ui.r (par sr k) true) :: pt ui.r (ndO ui um (ul.ref sr) (ur.ref sr) gi.r false) :: tr g o sr ui.r ul :: tr g o sr ui.r ur :: cx g o sr gi.r (Tr.mx o (.node gi gc (.node fi true fs (.node zi true zl zr)) (.node ui true ul ur))) k :: pt tp (treO (rootR k gi.r) n sr) :: pt sr senO :: has g :: l) := by
        refine U0.to (Ent.trans ?_ (tr_close of nf hf))
        iterate 10 (apply Ent.pick; (focus (repeat (first | exact Sel.here | apply Sel.there))))
        exact Ent.refl
      have U2 : Sat H3 (tr g o sr gi.r (.node ui false ul ur) :: tr g o sr gi.r (.node fi false fs (.node zi true zl zr)) :: pt gi.r (ndO gi gm fi.r ui.r (par sr k) true) :: cx g o sr gi.r (Tr.mx o (.node gi gc (.node fi true fs (.node zi true zl zr)) (.node ui true ul ur))) k :: pt tp (treO (rootR k gi.r) n sr) :: pt sr senO :: has g :: l) := by
        refine U1.to (Ent.trans ?_ (tr_close ou nu hu))
        iterate 8 (apply Ent.pick; (focus (repeat (first | exact Sel.here | apply Sel.there))))
        exact Ent.refl
      refine U2.to (Ent.trans ?_ (tr_close og ng hg))
      iterate 7 (apply Ent.pick; (focus (repeat (first | exact Sel.here | apply Sel.there))))
      exact Ent.refl
theorem step_Ro {zi fi gi : It} {gc : Bool} {zl zr fs gs : Tr} {k : List Fr} {n : Int} {R : Ending → Heap → Prop}
    (S : Sat H (tr g o sr fi.r (.node zi true zl zr) :: cx g o sr zi.r (Tr.mx o (.node zi true zl zr)) (⟨fi, true, false, fs⟩ :: ⟨gi, gc, false, gs⟩ :: k) :: pt tp (treO (rootR k gi.r) n sr) :: pt sr senO :: has g :: l))
    (rec : ∀ ui ul ur H1, gs = (.node ui true ul ur) → Sat H1 (tr g o sr (par sr k) (.node gi true (.node ui false ul ur) (.node fi false fs (.node zi true zl zr))) :: cx g o sr gi.r (Tr.mx o (.node gi true (.node ui false ul ur) (.node fi false fs (.node zi true zl zr)))) k :: pt tp (treO (rootR k gi.r) n sr) :: pt sr senO :: has g :: l) → F135.L0 (some (aA tp)) (some (aA gi.r)) H1 R)
    (fin : ∀ H1, gs.red = false → Sat H1 (tr g o sr sr ((plug k (turnI ⟨gi, gc, false, gs⟩ ⟨fi, true, false, fs⟩ (.node zi true zl zr))).setC false) :: pt tp (treO ((plug k (turnI ⟨gi, gc, false, gs⟩ ⟨fi, true, false, fs⟩ (.node zi true zl zr))).ref sr) n sr) :: pt sr senO :: has g :: l) → R (.returned (.tuple ⟨[]⟩)) H1) :
    F135.L0 (some (aA tp)) (some (aA zi.r)) H R := by
  have S1 : Sat H (tr g o sr (par sr k) (.node gi gc gs (.node fi true fs (.node zi true zl zr))) :: cx g o sr gi.r (Tr.mx o (.node gi gc gs (.node fi true fs (.node zi true zl zr)))) k :: pt tp (treO (rootR k gi.r) n sr) :: pt sr senO :: has g :: l) := (S.to (zip_up ⟨fi, true, false, fs⟩ (⟨gi, gc, false, gs⟩ :: k) (.node zi true zl zr))).to (zip_up ⟨gi, gc, false, gs⟩ k (.node fi true fs (.node zi true zl zr)))
  obtain ⟨gm, og, ng, hg, S2⟩ := tr_open S1
  obtain ⟨fm, of, nf, hf, S3⟩ := tr_open (S2.bring (c := tr g o sr gi.r (.node fi true fs (.node zi true zl zr))) (by (repeat (first | exact Sel.here | apply Sel.there))))
  obtain ⟨zm, oz, nz, hz, S4⟩ := tr_open (S3.bring (c := tr g o sr fi.r (.node zi true zl zr)) (by (repeat (first | exact Sel.here | apply Sel.there))))
  clear S S1 S2 S3
  have T1 : Sat H (pt zi.r (ndO zi zm (zl.ref sr) (zr.ref sr) fi.r true) :: tr g o sr zi.r zl :: tr g o sr zi.r zr :: pt fi.r (ndO fi fm (fs.ref sr) zi.r gi.r true) :: tr g o sr fi.r fs :: pt gi.r (ndO gi gm (gs.ref sr) fi.r (par sr k) gc) :: tr g o sr gi.r gs :: cx g o sr gi.r (Tr.mx o (.node gi gc gs (.node fi true fs (.node zi true zl zr)))) k :: pt tp (treO (rootR k gi.r) n sr) :: pt sr senO :: has g :: l) := by
    refine S4.to ?_
    iterate 11 (apply Ent.pick; (focus (repeat (first | exact Sel.here | apply Sel.there))))
    exact Ent.refl
  clear S4
  have zipped : ∀ H, Sat H (pt zi.r (ndO zi zm (zl.ref sr) (zr.ref sr) fi.r true) :: tr g o sr zi.r zl :: tr g o sr zi.r zr :: pt fi.r (ndO fi fm (fs.ref sr) zi.r gi.r true) :: tr g o sr fi.r fs :: pt gi.r (ndO gi gm (gs.ref sr) fi.r (par sr k) gc) :: tr g o sr gi.r gs :: cx g o sr gi.r (Tr.mx o (.node gi gc gs (.node fi true fs (.node zi true zl zr)))) k :: pt tp (treO (rootR k gi.r) n sr) :: pt sr senO :: has g :: l) → Sat H (tr g o sr gi.r (.node fi true fs (.node zi true zl zr)) :: cx g o sr fi.r (Tr.mx o (.node fi true fs (.node zi true zl zr))) (⟨gi, gc, false, gs⟩ :: k) :: pt tp (treO (rootR k gi.r) n sr) :: pt sr senO :: has g :: l) := by
    intro H S
    have U1 : Sat H (tr g o sr fi.r (.node zi true zl zr) :: pt fi.r (ndO fi fm (fs.ref sr) zi.r gi.r true) :: tr g o sr fi.r fs :: pt gi.r (ndO gi gm (gs.ref sr) fi.r (par sr k) gc) :: tr g o sr gi.r gs :: cx g o sr gi.r (Tr.mx o (.node gi gc gs (.node fi true fs (.node zi true zl zr)))) k :: pt tp (treO (rootR k gi.r) n sr) :: pt sr senO :: has g :: l) := S.to (tr_close oz nz hz)
    have U2 : Sat H (tr g o sr gi.r (.node fi true fs (.node zi true zl zr)) :: pt gi.r (ndO gi gm (gs.ref sr) fi.r (par sr k) gc) :: tr g o sr gi.r gs :: cx g o sr gi.r (Tr.mx o (.node gi gc gs (.node fi true fs (.node zi true zl zr)))) k :: pt tp (treO (rootR k gi.r) n sr) :: pt sr senO :: has g :: l) := by
      refine U1.to (Ent.trans ?_ (tr_close of nf hf))
      iterate 8 (apply Ent.pick; (focus (repeat (first | exact Sel.here | apply Sel.there))))
      exact Ent.refl
    have U3 : Sat H (tr g o sr (par sr k) (.node gi gc gs (.node fi true fs (.node zi true zl zr))) :: cx g o sr gi.r (Tr.mx o (.node gi gc gs (.node fi true fs (.node zi true zl zr)))) k :: pt tp (treO (rootR k gi.r) n sr) :: pt sr senO :: has g :: l) := by
      refine U2.to (Ent.trans ?_ (tr_close og ng hg))
      iterate 7 (apply Ent.pick; (focus (repeat (first | exact Sel.here | apply Sel.there))))
      exact Ent.refl
    exact U3.to (zip_down ⟨gi, gc, false, gs⟩ k (.node fi true fs (.node zi true zl zr)))
  refine F135.L0_step ?_
  unfold F135.L0n
  (repeat (first | (refine Step.go ?_; intros) | refine iteB_t (by decide) ?_ | refine iteB_f (by decide) ?_ | (refine Duo.mk (by first | omega | exact rfl | decide) ?_; intros) | (refine Duo.mk (Clo.mk (by kernel_rfl)) ?_; intros)))
  refine col_at (b := fi.r) (n := 1) T1 rfl nf fun H1 T2 => ?_
  refine Step.go ?_
  refine iteB_t rfl ?_
  (repeat (first | (refine Step.go ?_; intros) | refine iteB_t (by decide) ?_ | refine iteB_f (by decide) ?_ | (refine Duo.mk (by first | omega | exact rfl | decide) ?_; intros) | (refine Duo.mk (Clo.mk (by kernel_rfl)) ?_; intros)))
  refine pq_refS (t := gs) (p := gi.r) T2 (by (repeat (first | exact Sel.here | apply Sel.there))) (by (repeat (first | exact Sel.here | apply Sel.there))) (by (repeat (first | exact Sel.here | apply Sel.there))) nf ?_
  (repeat (first | (refine Step.go ?_; intros) | refine iteB_t (by decide) ?_ | refine iteB_f (by decide) ?_ | (refine Duo.mk (by first | omega | exact rfl | decide) ?_; intros) | (refine Duo.mk (Clo.mk (by kernel_rfl)) ?_; intros)))
  refine colT (t := gs) (p := gi.r) T2 (by (repeat (first | exact Sel.here | apply Sel.there))) fun H2 T3 => ?_
  refine Step.go ?_
  cases gs with
  | nil =>
    have hu : Tr.red .nil = false := rfl
    refine iteB_f rfl ?_
    (repeat (first | (refine Step.go ?_; intros) | refine iteB_t (by decide) ?_ | refine iteB_f (by decide) ?_ | (refine Duo.mk (by first | omega | exact rfl | decide) ?_; intros) | (refine Duo.mk (Clo.mk (by kernel_rfl)) ?_; intros)))
    refine pq_refS (t := fs) (p := fi.r) T3 (by (repeat (first | exact Sel.here | apply Sel.there))) (by (repeat (first | exact Sel.here | apply Sel.there))) (by (repeat (first | exact Sel.here | apply Sel.there))) nz ?_
    (repeat (first | (refine Step.go ?_; intros) | refine iteB_t (by decide) ?_ | refine iteB_f (by decide) ?_ | (refine Duo.mk (by first | omega | exact rfl | decide) ?_; intros) | (refine Duo.mk (Clo.mk (by kernel_rfl)) ?_; intros)))
    exact l1_ok (ai := zi) (ac := true) (al := zl) (ar := zr) (Pi := fi) (pc := true) (B := fs) (gi := gi) (gc := gc) (gs := .nil) (k := k) (n := n) (zipped _ T3) (fun H3 S9 => fin H3 hu (by exact S9))
  | node ui uc ul ur =>
    cases uc with
    | false =>
      have hu : Tr.red (.node ui false ul ur) = false := rfl
      refine iteB_f rfl ?_
      (repeat (first | (refine Step.go ?_; intros) | refine iteB_t (by decide) ?_ | refine iteB_f (by decide) ?_ | (refine Duo.mk (by first | omega | exact rfl | decide) ?_; intros) | (refine Duo.mk (Clo.mk (by kernel_rfl)) ?_; intros)))
      refine pq_refS (t := fs) (p := fi.r) T3 (by (repeat (first | exact Sel.here | apply Sel.there))) (by (repeat (first | exact Sel.here | apply Sel.there))) (by (repeat (first | exact Sel.here | apply Sel.there))) nz ?_
      (repeat (first | (refine Step.go ?_; intros) | refine iteB_t (by decide) ?_ | refine iteB_f (by decide) ?_ | (refine Duo.mk (by first | omega | exact rfl | decide) ?_; intros) | (refine Duo.mk (Clo.mk (by kernel_rfl)) ?_; intros)))
      exact l1_ok (ai := zi) (ac := true) (al := zl) (ar := zr) (Pi := fi) (pc := true) (B := fs) (gi := gi) (gc := gc) (gs := .node ui false ul ur) (k := k) (n := n) (zipped _ T3) (fun H3 S9 => fin H3 hu (by exact S9))
    | true =>
      refine iteB_t rfl ?_
      obtain ⟨um, ou, nu, hu, T4⟩ := tr_open (T3.bring (c := tr g o sr gi.r (.node ui true ul ur)) (by (repeat (first | exact Sel.here | apply Sel.there))))
      dsimp only [Tr.ref] at T4 ⊢
      clear T1 T2 T3
      (repeat (first | (refine Step.go ?_; intros) | refine iteB_t (by decide) ?_ | refine iteB_f (by decide) ?_ | (refine Duo.mk (by first | omega | exact rfl | decide) ?_; intros) | (refine Duo.mk (Clo.mk (by kernel_rfl)) ?_; intros)))
      rename_i H3 T5
      refine rec ui ul ur H3 rfl ?_
      have U0 : Sat H3 (tr g o sr fi.r (.node zi true zl zr) :: pt fi.r (ndO fi fm (fs.ref sr) zi.r gi.r false) :: tr g o sr fi.r fs :: pt gi.r (ndO gi gm ui.r fi.r (par sr k) true) :: pt ui.r (ndO ui um (ul.ref sr) (ur.ref sr) gi.r false) :: tr g o sr ui.r ul :: tr g o sr ui.r ur :: cx g o sr gi.r (Tr.mx o (.node gi gc (.node ui true ul ur) (.node fi true fs (.node zi true zl zr)))) k :: pt tp (treO (rootR k gi.r) n sr) :: pt sr senO :: has g :: l) := by
        refine T5.to (Ent.trans ?_ (tr_close oz nz hz))
        iterate 13 (apply Ent.pick; (focus (repeat (first | exact Sel.here | apply Sel.there))))
        exact Ent.refl
      have U1 : Sat H3 (tr g o sr gi.r (.node fi false fs (.node zi true zl zr)) :: pt gi.r (ndO gi gm ui.r fi.r (par sr k) true) :: pt ui.r (ndO ui um (ul.ref sr) (ur.ref sr) gi.r false) :: tr g o sr ui.r ul :: tr g o sr ui.r ur :: cx g o sr gi.r (Tr.mx o (.node gi gc (.node ui true ul ur) (.node fi true fs (.node zi true zl zr)))) k :: pt tp (treO (rootR k gi.r) n sr) :: pt sr senO :: has g :: l) := by
        refine U0.to (Ent.trans ?_ (tr_close of nf hf))
        iterate 10 (apply Ent.pick; (focus (repeat (first | exact Sel.here | apply Sel.there))))
        exact Ent.refl
      have U2 : Sat H3 (tr g o sr gi.r (.node ui false ul ur) :: tr g o sr gi.r (.node fi false fs (.node zi true zl zr)) :: pt gi.r (ndO gi gm ui.r fi.r (par sr k) true) :: cx g o sr gi.r (Tr.mx o (.node gi gc (.node ui true ul ur) (.node fi true fs (.node zi true zl zr)))) k :: pt tp (treO (rootR k gi.r) n sr) :: pt sr senO :: has g :: l) := by
        refine U1.to (Ent.trans ?_ (tr_close ou nu hu))
        iterate 8 (apply Ent.pick; (focus (repeat (first | exact Sel.here | apply Sel.there))))
        exact Ent.refl
      refine U2.to (Ent.trans ?_ (tr_close og ng hg))
      iterate 7 (apply Ent.pick; (focus (repeat (first | exact Sel.here | apply Sel.there))))
      exact Ent.refl
theorem step_Ri {zi fi gi : It} {gc : Bool} {zl zr fs gs : Tr} {k : List Fr} {n : Int} {R : Ending → Heap → Prop}
    (S : Sat H (tr g o sr fi.r (.node zi true zl zr) :: cx g o sr zi.r (Tr.mx o (.node zi true zl zr)) (⟨fi, true, true, fs⟩ :: ⟨gi, gc, false, gs⟩ :: k) :: pt tp (treO (rootR k gi.r) n sr) :: pt sr senO :: has g :: l))
    (rec : ∀ ui ul ur H1, gs = (.node ui true ul ur) → Sat H1 (tr g o sr (par sr k) (.node gi true (.node ui false ul ur) (.node fi false (.node zi true zl zr) fs)) :: cx g o sr gi.r (Tr.mx o (.node gi true (.node ui false ul ur) (.node fi false (.node zi true zl zr) fs))) k :: pt tp (treO (rootR k gi.r) n sr) :: pt sr senO :: has g :: l) → F135.L0 (some (aA tp)) (some (aA gi.r)) H1 R)
    (fin : ∀ H1, gs.red = false → Sat H1 (tr g o sr sr ((plug k (turnI ⟨gi, gc, false, gs⟩ ⟨fi, true, true, fs⟩ (.node zi true zl zr))).setC false) :: pt tp (treO ((plug k (turnI ⟨gi, gc, false, gs⟩ ⟨fi, true, true, fs⟩ (.node zi true zl zr))).ref sr) n sr) :: pt sr senO :: has g :: l) → R (.returned (.tuple ⟨[]⟩)) H1) :
    F135.L0 (some (aA tp)) (some (aA zi.r)) H R := by
  have S1 : Sat H (tr g o sr (par sr k) (.node gi gc gs (.node fi true (.node zi true zl zr) fs)) :: cx g o sr gi.r (Tr.mx o (.node gi gc gs (.node fi true (.node zi true zl zr) fs))) k :: pt tp (treO (rootR k gi.r) n sr) :: pt sr senO :: has g :: l) := (S.to (zip_up ⟨fi, true, true, fs⟩ (⟨gi, gc, false, gs⟩ :: k) (.node zi true zl zr))).to (zip_up ⟨gi, gc, false, gs⟩ k (.node fi true (.node zi true zl zr) fs))
  obtain ⟨gm, og, ng, hg, S2⟩ := tr_open S1
  obtain ⟨fm, of, nf, hf, S3⟩ := tr_open (S2.bring (c := tr g o sr gi.r (.node fi true (.node zi true zl zr) fs)) (by (repeat (first | exact Sel.here | apply Sel.there))))
  obtain ⟨zm, oz, nz, hz, S4⟩ := tr_open (S3.bring (c := tr g o sr fi.r (.node zi true zl zr)) (by (repeat (first | exact Sel.here | apply Sel.there))))
  clear S S1 S2 S3
  have T1 : Sat H (pt zi.r (ndO zi zm (zl.ref sr) (zr.ref sr) fi.r true) :: tr g o sr zi.r zl :: tr g o sr zi.r zr :: pt fi.r (ndO fi fm zi.r (fs.ref sr) gi.r true) :: tr g o sr fi.r fs :: pt gi.r (ndO gi gm (gs.ref sr) fi.r (par sr k) gc) :: tr g o sr gi.r gs :: cx g o sr gi.r (Tr.mx o (.node gi gc gs (.node fi true (.node zi true zl zr) fs))) k :: pt tp (treO (rootR k gi.r) n sr) :: pt sr senO :: has g :: l) := by
    refine S4.to ?_
    iterate 11 (apply Ent.pick; (focus (repeat (first | exact Sel.here | apply Sel.there))))
    exact Ent.refl
  clear S4
  have zipped : ∀ H, Sat H (pt zi.r (ndO zi zm (zl.ref sr) (zr.ref sr) fi.r true) :: tr g o sr zi.r zl :: tr g o sr zi.r zr :: pt fi.r (ndO fi fm zi.r (fs.ref sr) gi.r true) :: tr g o sr fi.r fs :: pt gi.r (ndO gi gm (gs.ref sr) fi.r (par sr k) gc) :: tr g o sr gi.r gs :: cx g o sr gi.r (Tr.mx o (.node gi gc gs (.node fi true (.node zi true zl zr) fs))) k :: pt tp (treO (rootR k gi.r) n sr) :: pt sr senO :: has g :: l) → Sat H (tr g o sr gi.r (.node fi true (.node zi true zl zr) fs) :: cx g o sr fi.r (Tr.mx o (.node fi true (.node zi true zl zr) fs)) (⟨gi, gc, false, gs⟩ :: k) :: pt tp (treO (rootR k gi.r) n sr) :: pt sr senO :: has g :: l) := by
    intro H S
    have U1 : Sat H (tr g o sr fi.r (.node zi true zl zr) :: pt fi.r (ndO fi fm zi.r (fs.ref sr) gi.r true) :: tr g o sr fi.r fs :: pt gi.r (ndO gi gm (gs.ref sr) fi.r (par sr k) gc) :: tr g o sr gi.r gs :: cx g o sr gi.r (Tr.mx o (.node gi gc gs (.node fi true (.node zi true zl zr) fs))) k :: pt tp (treO (rootR k gi.r) n sr) :: pt sr senO :: has g :: l) := S.to (tr_close oz nz hz)
    have U2 : Sat H (tr g o sr gi.r (.node fi true (.node zi true zl zr) fs) :: pt gi.r (ndO gi gm (gs.ref sr) fi.r (par sr k) gc) :: tr g o sr gi.r gs :: cx g o sr gi.r (Tr.mx o (.node gi gc gs (.node fi true (.node zi true zl zr) fs))) k :: pt tp (treO (rootR k gi.r) n sr) :: pt sr senO :: has g :: l) := by
      refine U1.to (Ent.trans ?_ (tr_close of nf hf))
      iterate 8 (apply Ent.pick; (focus (repeat (first | exact Sel.here | apply Sel.there))))
      exact Ent.refl
    have U3 : Sat H (tr g o sr (par sr k) (.node gi gc gs (.node fi true (.node zi true zl zr) fs)) :: cx g o sr gi.r (Tr.mx o (.node gi gc gs (.node fi true (.node zi true zl zr) fs))) k :: pt tp (treO (rootR k gi.r) n sr) :: pt sr senO :: has g :: l) := by
      refine U2.to (Ent.trans ?_ (tr_close og ng hg))
      iterate 7 (apply Ent.pick; (focus (repeat (first | exact Sel.here | apply Sel.there))))
      exact Ent.refl
    exact U3.to (zip_down ⟨gi, gc, false, gs⟩ k (.node fi true (.node zi true zl zr) fs))
  refine F135.L0_step ?_
  unfold F135.L0n
  (repeat (first | (refine Step.go ?_; intros) | refine iteB_t (by decide) ?_ | refine iteB_f (by decide) ?_ | (refine Duo.mk (by first | omega | exact rfl | decide) ?_; intros) | (refine Duo.mk (Clo.mk (by kernel_rfl)) ?_; intros)))
  refine col_at (b := fi.r) (n := 1) T1 rfl nf fun H1 T2 => ?_
  refine Step.go ?_
  refine iteB_t rfl ?_
  (repeat (first | (refine Step.go ?_; intros) | refine iteB_t (by decide) ?_ | refine iteB_f (by decide) ?_ | (refine Duo.mk (by first | omega | exact rfl | decide) ?_; intros) | (refine Duo.mk (Clo.mk (by kernel_rfl)) ?_; intros)))
  refine pq_refS (t := gs) (p := gi.r) T2 (by (repeat (first | exact Sel.here | apply Sel.there))) (by (repeat (first | exact Sel.here | apply Sel.there))) (by (repeat (first | exact Sel.here | apply Sel.there))) nf ?_
  (repeat (first | (refine Step.go ?_; intros) | refine iteB_t (by decide) ?_ | refine iteB_f (by decide) ?_ | (refine Duo.mk (by first | omega | exact rfl | decide) ?_; intros) | (refine Duo.mk (Clo.mk (by kernel_rfl)) ?_; intros)))
  refine colT (t := gs) (p := gi.r) T2 (by (repeat (first | exact Sel.here | apply Sel.there))) fun H2 T3 => ?_
  refine Step.go ?_
  cases gs with
  | nil =>
    have hu : Tr.red .nil = false := rfl
    refine iteB_f rfl ?_
    (repeat (first | (refine Step.go ?_; intros) | refine iteB_t (by decide) ?_ | refine iteB_f (by decide) ?_ | (refine Duo.mk (by first | omega | exact rfl | decide) ?_; intros) | (refine Duo.mk (Clo.mk (by kernel_rfl)) ?_; intros)))
    refine pq_same ?_
    (repeat (first | (refine Step.go ?_; intros) | refine iteB_t (by decide) ?_ | refine iteB_f (by decide) ?_ | (refine Duo.mk (by first | omega | exact rfl | decide) ?_; intros) | (refine Duo.mk (Clo.mk (by kernel_rfl)) ?_; intros)))
    refine call_of (rotR_ok (k := ⟨gi, gc, false, .nil⟩ :: k) (zipped _ T3)) ?_
    rintro _ H3 ⟨rfl, S8⟩
    (repeat (first | (refine Step.go ?_; intros) | refine iteB_t (by decide) ?_ | refine iteB_f (by decide) ?_ | (refine Duo.mk (by first | omega | exact rfl | decide) ?_; intros) | (refine Duo.mk (Clo.mk (by kernel_rfl)) ?_; intros)))
    exact l1_ok (ai := fi) (ac := true) (Pi := zi) (pc := true) (B := zl) (gi := gi) (gc := gc) (gs := .nil) (k := k) (n := n) S8 (fun H4 S9 => fin H4 hu (by exact S9))
  | node ui uc ul ur =>
    cases uc with
    | false =>
      have hu : Tr.red (.node ui false ul ur) = false := rfl
      refine iteB_f rfl ?_
      (repeat (first | (refine Step.go ?_; intros) | refine iteB_t (by decide) ?_ | refine iteB_f (by decide) ?_ | (refine Duo.mk (by first | omega | exact rfl | decide) ?_; intros) | (refine Duo.mk (Clo.mk (by kernel_rfl)) ?_; intros)))
      refine pq_same ?_
      (repeat (first | (refine Step.go ?_; intros) | refine iteB_t (by decide) ?_ | refine iteB_f (by decide) ?_ | (refine Duo.mk (by first | omega | exact rfl | decide) ?_; intros) | (refine Duo.mk (Clo.mk (by kernel_rfl)) ?_; intros)))
      refine call_of (rotR_ok (k := ⟨gi, gc, false, .node ui false ul ur⟩ :: k) (zipped _ T3)) ?_
      rintro _ H3 ⟨rfl, S8⟩
      (repeat (first | (refine Step.go ?_; intros) | refine iteB_t (by decide) ?_ | refine iteB_f (by decide) ?_ | (refine Duo.mk (by first | omega | exact rfl | decide) ?_; intros) | (refine Duo.mk (Clo.mk (by kernel_rfl)) ?_; intros)))
      exact l1_ok (ai := fi) (ac := true) (Pi := zi) (pc := true) (B := zl) (gi := gi) (gc := gc) (gs := .node ui false ul ur) (k := k) (n := n) S8 (fun H4 S9 => fin H4 hu (by exact S9))
    | true =>
      refine iteB_t rfl ?_
      obtain ⟨um, ou, nu, hu, T4⟩ := tr_open (T3.bring (c := tr g o sr gi.r (.node ui true ul ur)) (by (repeat (first | exact Sel.here | apply Sel.there))))
      dsimp only [Tr.ref] at T4 ⊢
      clear T1 T2 T3
      (repeat (first | (refine Step.go ?_; intros) | refine iteB_t (by decide) ?_ | refine iteB_f (by decide) ?_ | (refine Duo.mk (by first | omega | exact rfl | decide) ?_; intros) | (refine Duo.mk (Clo.mk (by kernel_rfl)) ?_; intros)))
      rename_i H3 T5
      refine rec ui ul ur H3 rfl ?_
      have U0 : Sat H3 (tr g o sr fi.r (.node zi true zl zr) :: pt fi.r (ndO fi fm zi.r (fs.ref sr) gi.r false) :: tr g o sr fi.r fs :: pt gi.r (ndO gi gm ui.r fi.r (par sr k) true) :: pt ui.r (ndO ui um (ul.ref sr) (ur.ref sr) gi.r false) :: tr g o sr ui.r ul :: tr g o sr ui.r ur :: cx g o sr gi.r (Tr.mx o (.node gi gc (.node ui true ul ur) (.node fi true (.node zi true zl zr) fs))) k :: pt tp (treO (rootR k gi.r) n sr) :: pt sr senO :: has g :: l) := by
        refine T5.to (Ent.trans ?_ (tr_close oz nz hz))
        iterate 13 (apply Ent.pick; (focus (repeat (first | exact Sel.here | apply Sel.there))))
        exact Ent.refl
      have U1 : Sat H3 (tr g o sr gi.r (.node fi false (.node zi true zl zr) fs) :: pt gi.r (ndO gi gm ui.r fi.r (par sr k) true) :: pt ui.r (ndO ui um (ul.ref sr) (ur.ref sr) gi.r false) :: tr g o sr ui.r ul :: tr g o sr ui.r ur :: cx g o sr gi.r (Tr.mx o (.node gi gc (.node ui true ul ur) (.node fi true (.node zi true zl zr) fs))) k :: pt tp (treO (rootR k gi.r) n sr) :: pt sr senO :: has g :: l) := by
        refine U0.to (Ent.trans ?_ (tr_close of nf hf))
        iterate 10 (apply Ent.pick; (focus (repeat (first | exact Sel.here | apply Sel.there))))
        exact Ent.refl
      have U2 : Sat H3 (tr g o sr gi.r (.node ui false ul ur) :: tr g o sr gi.r (.node fi false (.node zi true zl zr) fs) :: pt gi.r (ndO gi gm ui.r fi.r (par sr k) true) :: cx g o sr gi.r (Tr.mx o (.node gi gc (.node ui true ul ur) (.node fi true (.node zi true zl zr) fs))) k :: pt tp (treO (rootR k gi.r) n sr) :: pt sr senO :: has g :: l) := by
        refine U1.to (Ent.trans ?_ (tr_close ou nu hu))
        iterate 8 (apply Ent.pick; (focus (repeat (first | exact Sel.here | apply Sel.there))))
        exact Ent.refl
      refine U2.to (Ent.trans ?_ (tr_close og ng hg))
      iterate 7 (apply Ent.pick; (focus (repeat (first | exact Sel.here | apply Sel.there))))
      exact Ent.refl
theorem fix_loop : ∀ (N : Nat) (k : List Fr) (zi : It) (zl zr : Tr) (n : Int) (H : Heap) (R : Ending → Heap → Prop), k.length ≤ N → rootB k →
    Sat H (tr g o sr (par sr k) (.node zi true zl zr) :: cx g o sr zi.r (Tr.mx o (.node zi true zl zr)) k :: pt tp (treO (rootR k zi.r) n sr) :: pt sr senO :: has g :: l) →
    (∀ H1, Sat H1 (tr g o sr sr ((fixI k (.node zi true zl zr)).setC false) :: pt tp (treO ((fixI k (.node zi true zl zr)).ref sr) n sr) :: pt sr senO :: has g :: l) → R (.returned (.tuple ⟨[]⟩)) H1) →
    F135.L0 (some (aA tp)) (some (aA zi.r)) H R := by
  intro N
  induction N with
  | zero =>
    intro k zi zl zr n H R hk hr S fin
    have : k = [] := List.eq_nil_of_length_eq_zero (by omega)
    subst this
    exact exit_ok rfl S fin
  | succ N ih =>
    intro k zi zl zr n H R hk hr S fin
    match k, hk, hr, S, fin with
    | [], _, _, S, fin => exact exit_ok rfl S fin
    | [f], _, hr, S, fin => exact exit_ok (k := [f]) hr S fin
    | ⟨fi, fc, fl, fs⟩ :: ⟨gi, gc, gl, gs⟩ :: k, hk, hr, S, fin =>
      cases fc with
      | false =>
        refine exit_ok rfl S ?_
        have e : fixI (⟨fi, false, fl, fs⟩ :: ⟨gi, gc, gl, gs⟩ :: k) (.node zi true zl zr) = plug (⟨fi, false, fl, fs⟩ :: ⟨gi, gc, gl, gs⟩ :: k) (.node zi true zl zr) := by
          unfold fixI; rw [if_neg (by simp)]
        rw [e] at fin
        exact fin
      | true =>
        have hr2 := rootB_tail2 (rootB_tail2 hr)
        have e1 : gs.red = false → fixI (⟨fi, true, fl, fs⟩ :: ⟨gi, gc, gl, gs⟩ :: k) (.node zi true zl zr) = plug k (turnI ⟨gi, gc, gl, gs⟩ ⟨fi, true, fl, fs⟩ (.node zi true zl zr)) := by
          intro h; unfold fixI; rw [if_pos rfl, if_neg (by simp [h])]
        have e2 : gs.red = true → fixI (⟨fi, true, fl, fs⟩ :: ⟨gi, gc, gl, gs⟩ :: k) (.node zi true zl zr) = fixI k (Fr.fill ⟨gi, true, gl, gs.setC false⟩ (Fr.fill ⟨fi, false, fl, fs⟩ (.node zi true zl zr))) := by
          intro h; rw [fixI]; rw [if_pos rfl, if_pos h]
        cases gl <;> cases fl
        · refine step_Ro S (fun ui ul ur H1 h S1 => ?_) (fun H1 h S1 => fin H1 (by rw [e1 h]; exact S1))
          subst h
          rw [e2 rfl] at fin
          exact ih k gi _ _ n H1 R (by simp at hk; omega) hr2 S1 fin
        · refine step_Ri S (fun ui ul ur H1 h S1 => ?_) (fun H1 h S1 => fin H1 (by rw [e1 h]; exact S1))
          subst h
          rw [e2 rfl] at fin
          exact ih k gi _ _ n H1 R (by simp at hk; omega) hr2 S1 fin
        · refine step_Li S (fun ui ul ur H1 h S1 => ?_) (fun H1 h S1 => fin H1 (by rw [e1 h]; exact S1))
          subst h
          rw [e2 rfl] at fin
          exact ih k gi _ _ n H1 R (by simp at hk; omega) hr2 S1 fin
        · refine step_Lo S (fun ui ul ur H1 h S1 => ?_) (fun H1 h S1 => fin H1 (by rw [e1 h]; exact S1))
          subst h
          rw [e2 rfl] at fin
          exact ih k gi _ _ n H1 R (by simp at hk; omega) hr2 S1 fin
end
end Go.Proofs.YtobolifgehagfaaGreat

set_option linter.unusedVariables false
set_option linter.unusedSimpArgs false
set_option linter.unnecessarySimpa false
namespace Go.Proofs.YtobolifgehagfaaGreat
open Go Go.Den Go.Proofs
section
variable {H : Heap} {l m : List HP} {g : PH} {o : Int} {sr b tp : Nat}
theorem IsG.mk {i : IV} {x : EN} (h : IsG g o i x) (S : Sat H l) [G : HasG l g] : ∃ t v, i = .mk t v := (h H (G.sub S)).mk
theorem create_ok {i j v : IV} {root : Nat} {n : Int} (S : Sat H (pt tp (treO root n sr) :: l)) :
    CallsH Tryz.prog 134 ⟨[pA tp, .agg ⟨[i.v, j.v]⟩, v.v]⟩ H (fun e H1 => ∃ r, e = .returned (pA r) ∧ Sat H1 (pt r (.cells ⟨[i.v, j.v, v.v, j.v, pA sr, pA sr, pA sr, .int .i64 1]⟩ 146) :: pt tp (treO root n sr) :: l)) := by
  refine F134.calls (ivl_0 := i) (ivl_1 := j) (val := v) ?_
  unfold F134.go
  (repeat (first | (refine Step.go ?_; intros) | refine iteB_t (by decide) ?_ | refine iteB_f (by decide) ?_ | (refine Duo.mk (by first | omega | exact rfl | decide) ?_; intros) | (refine Duo.mk (Clo.mk (by kernel_rfl)) ?_; intros)))
  rename_i r0 H1 S1 r H2 S2
  refine ⟨r, rfl, S2.to ?_⟩
  iterate 2 (apply Ent.pick; (focus (repeat (first | exact Sel.here | apply Sel.there))))
  exact Ent.drop Ent.refl
theorem ins_last {z : It} {k : List Fr} {n : Int} {R : Ending → Heap → Prop} {c : Bool} (hn : -1000000000 ≤ n ∧ n ≤ 1000000000) (hr : rootB k)
    (S : Sat H (tr g o sr (par sr k) (.node z c .nil .nil) :: cx g o sr z.r (Tr.mx o (.node z true .nil .nil)) k :: pt tp (treO (rootR k z.r) n sr) :: pt sr senO :: has g :: l))
    (fin : ∀ H1, Sat H1 (tr g o sr sr ((fixI k (.node z true .nil .nil)).setC false) :: pt tp (treO ((fixI k (.node z true .nil .nil)).ref sr) (n + 1) sr) :: pt sr senO :: has g :: l) → R (.returned (.tuple ⟨[]⟩)) H1) :
    F123.L2 (some (aA tp)) (some (aA z.r)) H R := by
  refine F123.L2_step ?_
  unfold F123.L2n
  obtain ⟨zm, oz, nz, hz, S1⟩ := tr_open S
  clear S
  (repeat (first | (refine Step.go ?_; intros) | refine iteB_t (by decide) ?_ | refine iteB_f (by decide) ?_ | (refine Duo.mk (by first | omega | exact rfl | decide) ?_; intros) | (refine Duo.mk (Clo.mk (by kernel_rfl)) ?_; intros)))
  rename_i H1 S2
  have T1 : Sat H1 (tr g o sr (par sr k) (.node z true .nil .nil) :: cx g o sr z.r (Tr.mx o (.node z true .nil .nil)) k :: pt tp (treO (rootR k z.r) n sr) :: pt sr senO :: has g :: l) := S2.to (tr_close (c := true) oz nz hz)
  clear S1 S2
  refine call_of (S := fun e H1 => e = .returned (.tuple ⟨[]⟩) ∧ Sat H1 (tr g o sr sr ((fixI k (.node z true .nil .nil)).setC false) :: pt tp (treO ((fixI k (.node z true .nil .nil)).ref sr) n sr) :: pt sr senO :: has g :: l)) (F135.calls (fix_loop _ k z .nil .nil n H1 _ (Nat.le_refl _) hr T1 fun H2 S2 => ⟨rfl, S2⟩)) ?_
  rintro _ H2 ⟨rfl, S3⟩
  (repeat (first | (refine Step.go ?_; intros) | refine iteB_t (by decide) ?_ | refine iteB_f (by decide) ?_ | (refine Duo.mk (by first | omega | exact rfl | decide) ?_; intros) | (refine Duo.mk (Clo.mk (by kernel_rfl)) ?_; intros)))
  rename_i H3 S4
  rw [wr (by omega) (by omega)] at S4
  exact fin H3 S4
theorem mkz {z : It} {p : Nat} (hO : OkI g o z) (hz : z.r ≠ sr) : Ent (pt z.r (ndO z z.j sr sr p true) :: l) (tr g o sr p (.node z true .nil .nil) :: l) := by
  refine Ent.trans (Ent.cons (t := tr g o sr z.r .nil :: tr g o sr z.r .nil :: l) ?_) (tr_close (t := .nil) (u := .nil) hO hz hO.2.isM)
  exact Ent.trans tr_mknil tr_mknil
theorem ins_loop {z : It} {n : Int} {R : Ending → Heap → Prop} (hO : OkI g o z) (hz : z.r ≠ sr) (hn : -1000000000 ≤ n ∧ n ≤ 1000000000) : ∀ (t : Tr) (k : List Fr) (H : Heap), (∀ f k', k = f :: k' → f.left = goL o z.B z.E f.it) → rootB (path o z.B z.E t k) →
    Sat H (tr g o sr (par sr k) t :: cx g o sr (t.ref sr) (t.mx o) k :: pt z.r (ndO z z.j sr sr sr true) :: pt tp (treO (rootR k (t.ref sr)) n sr) :: pt sr senO :: has g :: l) →
    (∀ H1, Sat H1 (tr g o sr sr ((fixI (path o z.B z.E t k) (.node z true .nil .nil)).setC false) :: pt tp (treO ((fixI (path o z.B z.E t k) (.node z true .nil .nil)).ref sr) (n + 1) sr) :: pt sr senO :: has g :: l) → R (.returned (.tuple ⟨[]⟩)) H1) →
    F123.L0 (some (aA tp)) (some (aA (par sr k))) (some (aA z.r)) (some (aA (t.ref sr))) H R := by
  intro t
  induction t with
  | nil =>
    intro k H hk hr S fin
    refine F123.L0_step ?_
    unfold F123.L0n
    dsimp only [Tr.ref]
    have S1 := S.to (m := cx g o sr sr none k :: pt z.r (ndO z z.j sr sr sr true) :: pt tp (treO (rootR k sr) n sr) :: pt sr senO :: has g :: l) tr_nil
    clear S
    (repeat (first | (refine Step.go ?_; intros) | refine iteB_t (by decide) ?_ | refine iteB_f (by decide) ?_ | (refine Duo.mk (by first | omega | exact rfl | decide) ?_; intros) | (refine Duo.mk (Clo.mk (by kernel_rfl)) ?_; intros)))
    refine pq_same ?_
    (repeat (first | (refine Step.go ?_; intros) | refine iteB_t (by decide) ?_ | refine iteB_f (by decide) ?_ | (refine Duo.mk (by first | omega | exact rfl | decide) ?_; intros) | (refine Duo.mk (Clo.mk (by kernel_rfl)) ?_; intros)))
    rename_i H1 S2
    clear S1
    cases k with
    | nil =>
      refine pq_same ?_
      (repeat (first | (refine Step.go ?_; intros) | refine iteB_t (by decide) ?_ | refine iteB_f (by decide) ?_ | (refine Duo.mk (by first | omega | exact rfl | decide) ?_; intros) | (refine Duo.mk (Clo.mk (by kernel_rfl)) ?_; intros)))
      rename_i H2 S3
      clear S2
      have T1 : Sat H2 (tr g o sr sr (.node z true .nil .nil) :: cx g o sr z.r (some z.E) [] :: pt tp (treO z.r n sr) :: pt sr senO :: has g :: l) := by
        refine S3.to (Ent.trans ?_ (mkz hO hz))
        iterate 5 (apply Ent.pick; (focus (repeat (first | exact Sel.here | apply Sel.there))))
        exact Ent.refl
      exact ins_last (k := []) hn hr T1 fin
    | cons f k =>
    obtain ⟨fi, fc, fl, fs⟩ := f
    have hfl : fl = goL o z.B z.E fi := hk _ _ rfl
    obtain ⟨fm, of, nf, hf, S3⟩ := nd_open (S2.bring (c := cx g o sr sr none (⟨fi, fc, fl, fs⟩ :: k)) (by (repeat (first | exact Sel.here | apply Sel.there)))).star
    clear S2
    have put_true : goL o z.B z.E fi = true → ∀ H, Sat H (pt fi.r (ndO fi fm z.r (fs.ref sr) (par sr k) fc) :: tr g o sr fi.r fs :: cx g o sr fi.r (some (Fr.mx o ⟨fi, fc, fl, fs⟩ none)) k :: pt z.r (ndO z z.j sr sr fi.r true) :: pt tp (treO (rootR k fi.r) n sr) :: pt sr senO :: has g :: l) →
        F123.L1 (some (aA tp)) (some (aA fi.r)) (some (aA z.r)) H R := by
      intro hg H S
      obtain rfl : fl = true := hfl.trans hg
      refine F123.L1_step ?_
      unfold F123.L1n
      (repeat (first | (refine Step.go ?_; intros) | refine iteB_t (by decide) ?_ | refine iteB_f (by decide) ?_ | (refine Duo.mk (by first | omega | exact rfl | decide) ?_; intros) | (refine Duo.mk (Clo.mk (by kernel_rfl)) ?_; intros)))
      have T1 : Sat H (pt fi.r (ndO fi fm z.r (fs.ref sr) (par sr k) fc) :: cx g o sr fi.r (some (Fr.mx o ⟨fi, fc, true, fs⟩ none)) k :: pt sr senO :: has g :: pt z.r (ndO z z.j sr sr fi.r true) :: tr g o sr fi.r fs :: pt tp (treO (rootR k fi.r) n sr) :: l) := by
        refine S.to ?_
        iterate 7 (apply Ent.pick; (focus (repeat (first | exact Sel.here | apply Sel.there))))
        exact Ent.refl
      clear S
      refine updD (k := k) (it := fi) (c := fc) (m := fm) (x := z.r) (y := fs.ref sr) (mx := some z.E) (my := fs.mx o) T1 of nf hf ?_ ?_ ?_
      · exact Kid.here rfl hO.2.isM hz
      · exact (kid_tr fs).there
      intro m' H2 h2 S2
      (repeat (first | (refine Step.go ?_; intros) | refine iteB_t (by decide) ?_ | refine iteB_f (by decide) ?_ | (refine Duo.mk (by first | omega | exact rfl | decide) ?_; intros) | (refine Duo.mk (Clo.mk (by kernel_rfl)) ?_; intros)))
      have T2 : Sat H2 (cx g o sr z.r (some z.E) (⟨fi, fc, true, fs⟩ :: k) :: pt z.r (ndO z z.j sr sr fi.r true) :: pt tp (treO (rootR k fi.r) n sr) :: pt sr senO :: has g :: l) := by
        refine S2.to (Ent.star (Ent.trans ?_ (nd_close of nf h2)))
        iterate 7 (apply Ent.pick; (focus (repeat (first | exact Sel.here | apply Sel.there))))
        exact Ent.refl
      clear S2 T1
      have T3 : Sat H2 (tr g o sr fi.r (.node z true .nil .nil) :: cx g o sr z.r (some z.E) (⟨fi, fc, true, fs⟩ :: k) :: pt tp (treO (rootR k fi.r) n sr) :: pt sr senO :: has g :: l) := by
        refine T2.to (Ent.trans ?_ (mkz hO hz))
        iterate 5 (apply Ent.pick; (focus (repeat (first | exact Sel.here | apply Sel.there))))
        exact Ent.refl
      exact ins_last (k := ⟨fi, fc, true, fs⟩ :: k) hn hr T3 fin
    have put_false : goL o z.B z.E fi = false → ∀ H, Sat H (pt fi.r (ndO fi fm (fs.ref sr) z.r (par sr k) fc) :: tr g o sr fi.r fs :: cx g o sr fi.r (some (Fr.mx o ⟨fi, fc, fl, fs⟩ none)) k :: pt z.r (ndO z z.j sr sr fi.r true) :: pt tp (treO (rootR k fi.r) n sr) :: pt sr senO :: has g :: l) →
        F123.L1 (some (aA tp)) (some (aA fi.r)) (some (aA z.r)) H R := by
      intro hg H S
      obtain rfl : fl = false := hfl.trans hg
      refine F123.L1_step ?_
      unfold F123.L1n
      (repeat (first | (refine Step.go ?_; intros) | refine iteB_t (by decide) ?_ | refine iteB_f (by decide) ?_ | (refine Duo.mk (by first | omega | exact rfl | decide) ?_; intros) | (refine Duo.mk (Clo.mk (by kernel_rfl)) ?_; intros)))
      have T1 : Sat H (pt fi.r (ndO fi fm (fs.ref sr) z.r (par sr k) fc) :: cx g o sr fi.r (some (Fr.mx o ⟨fi, fc, false, fs⟩ none)) k :: pt sr senO :: has g :: pt z.r (ndO z z.j sr sr fi.r true) :: tr g o sr fi.r fs :: pt tp (treO (rootR k fi.r) n sr) :: l) := by
        refine S.to ?_
        iterate 7 (apply Ent.pick; (focus (repeat (first | exact Sel.here | apply Sel.there))))
        exact Ent.refl
      clear S
      refine updD (k := k) (it := fi) (c := fc) (m := fm) (x := fs.ref sr) (y := z.r) (mx := fs.mx o) (my := some z.E) T1 of nf hf ?_ ?_ ?_
      · exact (kid_tr fs).there
      · exact Kid.here rfl hO.2.isM hz
      intro m' H2 h2 S2
      (repeat (first | (refine Step.go ?_; intros) | refine iteB_t (by decide) ?_ | refine iteB_f (by decide) ?_ | (refine Duo.mk (by first | omega | exact rfl | decide) ?_; intros) | (refine Duo.mk (Clo.mk (by kernel_rfl)) ?_; intros)))
      have T2 : Sat H2 (cx g o sr z.r (some z.E) (⟨fi, fc, false, fs⟩ :: k) :: pt z.r (ndO z z.j sr sr fi.r true) :: pt tp (treO (rootR k fi.r) n sr) :: pt sr senO :: has g :: l) := by
        refine S2.to (Ent.star (Ent.trans ?_ (nd_close of nf h2)))
        iterate 7 (apply Ent.pick; (focus (repeat (first | exact Sel.here | apply Sel.there))))
        exact Ent.refl
      clear S2 T1
      have T3 : Sat H2 (tr g o sr fi.r (.node z true .nil .nil) :: cx g o sr z.r (some z.E) (⟨fi, fc, false, fs⟩ :: k) :: pt tp (treO (rootR k fi.r) n sr) :: pt sr senO :: has g :: l) := by
        refine T2.to (Ent.trans ?_ (mkz hO hz))
        iterate 5 (apply Ent.pick; (focus (repeat (first | exact Sel.here | apply Sel.there))))
        exact Ent.refl
      exact ins_last (k := ⟨fi, fc, false, fs⟩ :: k) hn hr T3 fin
    have T0 : Sat H1 (pt fi.r (ndO fi fm (if fl then sr else fs.ref sr) (if fl then fs.ref sr else sr) (par sr k) fc) :: tr g o sr fi.r fs :: cx g o sr fi.r (some (Fr.mx o ⟨fi, fc, fl, fs⟩ none)) k :: pt z.r (ndO z z.j sr sr fi.r true) :: pt tp (treO (rootR k fi.r) n sr) :: pt sr senO :: has g :: l) := S3
    clear S3
    dsimp only [par]
    refine pq_ne nf T0.obj T0.obj ?_
    (repeat (first | (refine Step.go ?_; intros) | refine iteB_t (by decide) ?_ | refine iteB_f (by decide) ?_ | (refine Duo.mk (by first | omega | exact rfl | decide) ?_; intros) | (refine Duo.mk (Clo.mk (by kernel_rfl)) ?_; intros)))
    refine nilV_of (hO.1.mk T0) ?_
    (repeat (first | (refine Step.go ?_; intros) | refine iteB_t (by decide) ?_ | refine iteB_f (by decide) ?_ | (refine Duo.mk (by first | omega | exact rfl | decide) ?_; intros) | (refine Duo.mk (Clo.mk (by kernel_rfl)) ?_; intros)))
    refine cmpG T0 hO.1 of.1 fun H2 S4 => ?_
    clear T0
    (repeat (first | (refine Step.go ?_; intros) | refine iteB_t (by decide) ?_ | refine iteB_f (by decide) ?_ | (refine Duo.mk (by first | omega | exact rfl | decide) ?_; intros) | (refine Duo.mk (Clo.mk (by kernel_rfl)) ?_; intros)))
    rw [cmpE_neg, cmpE_zero]
    have toL : goL o z.B z.E fi = true → ∀ H, Sat H (pt fi.r (ndO fi fm (if fl then sr else fs.ref sr) (if fl then fs.ref sr else sr) (par sr k) fc) :: tr g o sr fi.r fs :: cx g o sr fi.r (some (Fr.mx o ⟨fi, fc, fl, fs⟩ none)) k :: pt z.r (ndO z z.j sr sr fi.r true) :: pt tp (treO (rootR k fi.r) n sr) :: pt sr senO :: has g :: l) → st1 H (Addr.add (aA fi.r) 4) (pA z.r) fun H6 => F123.L1 (some (aA tp)) (some (aA fi.r)) (some (aA z.r)) H6 R := by
      intro hg H S
      have e : fl = true := hfl.trans hg
      subst e
      (repeat (first | (refine Step.go ?_; intros) | refine iteB_t (by decide) ?_ | refine iteB_f (by decide) ?_ | (refine Duo.mk (by first | omega | exact rfl | decide) ?_; intros) | (refine Duo.mk (Clo.mk (by kernel_rfl)) ?_; intros)))
      rename_i H6 S6
      exact put_true hg H6 S6
    have toR : goL o z.B z.E fi = false → ∀ H, Sat H (pt fi.r (ndO fi fm (if fl then sr else fs.ref sr) (if fl then fs.ref sr else sr) (par sr k) fc) :: tr g o sr fi.r fs :: cx g o sr fi.r (some (Fr.mx o ⟨fi, fc, fl, fs⟩ none)) k :: pt z.r (ndO z z.j sr sr fi.r true) :: pt tp (treO (rootR k fi.r) n sr) :: pt sr senO :: has g :: l) → st1 H (Addr.add (aA fi.r) 5) (pA z.r) fun H6 => F123.L1 (some (aA tp)) (some (aA fi.r)) (some (aA z.r)) H6 R := by
      intro hg H S
      have e : fl = false := hfl.trans hg
      subst e
      (repeat (first | (refine Step.go ?_; intros) | refine iteB_t (by decide) ?_ | refine iteB_f (by decide) ?_ | (refine Duo.mk (by first | omega | exact rfl | decide) ?_; intros) | (refine Duo.mk (Clo.mk (by kernel_rfl)) ?_; intros)))
      rename_i H6 S6
      exact put_false hg H6 S6
    refine iteB_i (fun h => ?_) (fun h => ?_)
    · refine nilD_i ?_
      exact toL (by unfold goL; rw [h]; rfl) H2 S4
    refine iteB_i (fun h2 => ?_) (fun h2 => ?_)
    · rw [h] at h2
      have h3 : ltE o fi.B z.B = false := by simpa using h2
      (repeat (first | (refine Step.go ?_; intros) | refine iteB_t (by decide) ?_ | refine iteB_f (by decide) ?_ | (refine Duo.mk (by first | omega | exact rfl | decide) ?_; intros) | (refine Duo.mk (Clo.mk (by kernel_rfl)) ?_; intros)))
      refine nilV_of (hO.2.mk S4) ?_
      (repeat (first | (refine Step.go ?_; intros) | refine iteB_t (by decide) ?_ | refine iteB_f (by decide) ?_ | (refine Duo.mk (by first | omega | exact rfl | decide) ?_; intros) | (refine Duo.mk (Clo.mk (by kernel_rfl)) ?_; intros)))
      refine cmpG S4 hO.2 of.2 fun H3 S5 => ?_
      refine Step.go ?_
      rw [cmpE_neg]
      refine iteB_i (fun h4 => ?_) (fun h4 => ?_)
      · refine nilD_i ?_
        exact toL (by unfold goL; rw [h, h3, h4]; rfl) H3 S5
      · refine nilD_i ?_
        exact toR (by unfold goL; rw [h, h3, h4]; rfl) H3 S5
    · rw [h] at h2
      have h3 : ltE o fi.B z.B = true := by simpa using h2
      refine nilD_i ?_
      exact toR (by unfold goL; rw [h, h3]; rfl) H2 S4
  | node it c t1 t2 ih1 ih2 =>
    intro k H hk hr S fin
    have key : ∀ (H : Heap) (f : Fr) (t : Tr), f.fill t = .node it c t1 t2 → Sat H (tr g o sr (par sr k) (.node it c t1 t2) :: cx g o sr it.r (Tr.mx o (.node it c t1 t2)) k :: pt z.r (ndO z z.j sr sr sr true) :: pt tp (treO (rootR k it.r) n sr) :: pt sr senO :: has g :: l) →
        Sat H (tr g o sr it.r t :: cx g o sr (t.ref sr) (t.mx o) (f :: k) :: pt z.r (ndO z z.j sr sr sr true) :: pt tp (treO (rootR (f :: k) (t.ref sr)) n sr) :: pt sr senO :: has g :: l) := by
      intro H f t e S
      have hf : f.it = it := by
        unfold Fr.fill at e
        split at e <;> (cases e; rfl)
      have S1 := (zip_down (l := pt z.r (ndO z z.j sr sr sr true) :: pt tp (treO (rootR k it.r) n sr) :: pt sr senO :: has g :: l) (g := g) (o := o) (sr := sr) f k t)
      rw [e, hf] at S1
      have S2 := S.to S1
      show Sat H (tr g o sr it.r t :: cx g o sr (t.ref sr) (t.mx o) (f :: k) :: pt z.r (ndO z z.j sr sr sr true) :: pt tp (treO (rootR k f.it.r) n sr) :: pt sr senO :: has g :: l)
      rw [hf]
      exact S2
    have goLeft : goL o z.B z.E it = true → ∀ H, Sat H (tr g o sr (par sr k) (.node it c t1 t2) :: cx g o sr it.r (Tr.mx o (.node it c t1 t2)) k :: pt z.r (ndO z z.j sr sr sr true) :: pt tp (treO (rootR k it.r) n sr) :: pt sr senO :: has g :: l) →
        F123.L0 (some (aA tp)) (some (aA it.r)) (some (aA z.r)) (some (aA (t1.ref sr))) H R := by
      intro hg H S
      have hp : path o z.B z.E (.node it c t1 t2) k = path o z.B z.E t1 (⟨it, c, true, t2⟩ :: k) := by rw [path, if_pos hg]
      rw [hp] at hr fin
      exact ih1 (⟨it, c, true, t2⟩ :: k) H (fun f k' e => by cases e; exact hg.symm) hr (key H ⟨it, c, true, t2⟩ t1 rfl S) fin
    have goRight : goL o z.B z.E it = false → ∀ H, Sat H (tr g o sr (par sr k) (.node it c t1 t2) :: cx g o sr it.r (Tr.mx o (.node it c t1 t2)) k :: pt z.r (ndO z z.j sr sr sr true) :: pt tp (treO (rootR k it.r) n sr) :: pt sr senO :: has g :: l) →
        F123.L0 (some (aA tp)) (some (aA it.r)) (some (aA z.r)) (some (aA (t2.ref sr))) H R := by
      intro hg H S
      have hp : path o z.B z.E (.node it c t1 t2) k = path o z.B z.E t2 (⟨it, c, false, t1⟩ :: k) := by rw [path, if_neg (by rw [hg]; simp)]
      rw [hp] at hr fin
      exact ih2 (⟨it, c, false, t1⟩ :: k) H (fun f k' e => by cases e; exact hg.symm) hr (key H ⟨it, c, false, t1⟩ t2 rfl S) fin
    refine F123.L0_step ?_
    unfold F123.L0n
    dsimp only [Tr.ref]
    obtain ⟨im, oi, ni, hi, S1⟩ := tr_open S
    clear S
    have shut : ∀ H, Sat H (pt it.r (ndO it im (t1.ref sr) (t2.ref sr) (par sr k) c) :: tr g o sr it.r t1 :: tr g o sr it.r t2 :: cx g o sr it.r (Tr.mx o (.node it c t1 t2)) k :: pt z.r (ndO z z.j sr sr sr true) :: pt tp (treO (rootR k it.r) n sr) :: pt sr senO :: has g :: l) → _ := fun H S => S.to (tr_close oi ni hi)
    have S1 : Sat H (pt it.r (ndO it im (t1.ref sr) (t2.ref sr) (par sr k) c) :: tr g o sr it.r t1 :: tr g o sr it.r t2 :: cx g o sr it.r (Tr.mx o (.node it c t1 t2)) k :: pt z.r (ndO z z.j sr sr sr true) :: pt tp (treO (rootR k it.r) n sr) :: pt sr senO :: has g :: l) := S1
    (repeat (first | (refine Step.go ?_; intros) | refine iteB_t (by decide) ?_ | refine iteB_f (by decide) ?_ | (refine Duo.mk (by first | omega | exact rfl | decide) ?_; intros) | (refine Duo.mk (Clo.mk (by kernel_rfl)) ?_; intros)))
    refine pq_ne ni S1.obj S1.obj ?_
    (repeat (first | (refine Step.go ?_; intros) | refine iteB_t (by decide) ?_ | refine iteB_f (by decide) ?_ | (refine Duo.mk (by first | omega | exact rfl | decide) ?_; intros) | (refine Duo.mk (Clo.mk (by kernel_rfl)) ?_; intros)))
    refine nilV_of (hO.1.mk S1) ?_
    (repeat (first | (refine Step.go ?_; intros) | refine iteB_t (by decide) ?_ | refine iteB_f (by decide) ?_ | (refine Duo.mk (by first | omega | exact rfl | decide) ?_; intros) | (refine Duo.mk (Clo.mk (by kernel_rfl)) ?_; intros)))
    refine cmpG S1 hO.1 oi.1 fun H1 S2 => ?_
    (repeat (first | (refine Step.go ?_; intros) | refine iteB_t (by decide) ?_ | refine iteB_f (by decide) ?_ | (refine Duo.mk (by first | omega | exact rfl | decide) ?_; intros) | (refine Duo.mk (Clo.mk (by kernel_rfl)) ?_; intros)))
    rw [cmpE_neg, cmpE_zero]
    refine iteB_i (fun h => ?_) (fun h => ?_)
    · (repeat (first | (refine Step.go ?_; intros) | refine iteB_t (by decide) ?_ | refine iteB_f (by decide) ?_ | (refine Duo.mk (by first | omega | exact rfl | decide) ?_; intros) | (refine Duo.mk (Clo.mk (by kernel_rfl)) ?_; intros)))
      exact goLeft (by unfold goL; rw [h]; rfl) H1 (shut H1 S2)
    refine iteB_i (fun h2 => ?_) (fun h2 => ?_)
    · rw [h] at h2
      have h3 : ltE o it.B z.B = false := by simpa using h2
      (repeat (first | (refine Step.go ?_; intros) | refine iteB_t (by decide) ?_ | refine iteB_f (by decide) ?_ | (refine Duo.mk (by first | omega | exact rfl | decide) ?_; intros) | (refine Duo.mk (Clo.mk (by kernel_rfl)) ?_; intros)))
      refine nilV_of (hO.2.mk S2) ?_
      (repeat (first | (refine Step.go ?_; intros) | refine iteB_t (by decide) ?_ | refine iteB_f (by decide) ?_ | (refine Duo.mk (by first | omega | exact rfl | decide) ?_; intros) | (refine Duo.mk (Clo.mk (by kernel_rfl)) ?_; intros)))
      refine cmpG S2 hO.2 oi.2 fun H2 S3 => ?_
      (repeat (first | (refine Step.go ?_; intros) | refine iteB_t (by decide) ?_ | refine iteB_f (by decide) ?_ | (refine Duo.mk (by first | omega | exact rfl | decide) ?_; intros) | (refine Duo.mk (Clo.mk (by kernel_rfl)) ?_; intros)))
      rw [cmpE_neg]
      refine iteB_i (fun h4 => ?_) (fun h4 => ?_)
      · (repeat (first | (refine Step.go ?_; intros) | refine iteB_t (by decide) ?_ | refine iteB_f (by decide) ?_ | (refine Duo.mk (by first | omega | exact rfl | decide) ?_; intros) | (refine Duo.mk (Clo.mk (by kernel_rfl)) ?_; intros)))
        exact goLeft (by unfold goL; rw [h, h3, h4]; rfl) H2 (shut H2 S3)
      · (repeat (first | (refine Step.go ?_; intros) | refine iteB_t (by decide) ?_ | refine iteB_f (by decide) ?_ | (refine Duo.mk (by first | omega | exact rfl | decide) ?_; intros) | (refine Duo.mk (Clo.mk (by kernel_rfl)) ?_; intros)))
        exact goRight (by unfold goL; rw [h, h3, h4]; rfl) H2 (shut H2 S3)
    · rw [h] at h2
      have h3 : ltE o it.B z.B = true := by simpa using h2
      (repeat (first | (refine Step.go ?_; intros) | refine iteB_t (by decide) ?_ | refine iteB_f (by decide) ?_ | (refine Duo.mk (by first | omega | exact rfl | decide) ?_; intros) | (refine Duo.mk (Clo.mk (by kernel_rfl)) ?_; intros)))
      exact goRight (by unfold goL; rw [h, h3]; rfl) H1 (shut H1 S2)
end
end Go.Proofs.YtobolifgehagfaaGreat

set_option linter.unusedVariables false
set_option linter.unusedSimpArgs false
set_option linter.unnecessarySimpa false
namespace Go.Proofs.YtobolifgehagfaaGreat
open Go Go.Den Go.Proofs
section
variable {H : Heap} {l m : List HP} {g : PH} {o : Int} {sr b tp : Nat}
theorem RB.path {T : Tr} (h : RB T) (o : Int) (z : It) : rootB (path o z.B z.E T []) := (h.fixPre o z).rb
theorem insert_ok {i j v : IV} {B E : EN} {T : Tr} {n : Int} (hi : IsG g o i B) (hj : IsG g o j E) (hT : RB T) (hn : -1000000000 ≤ n ∧ n ≤ 1000000000)
    (S : Sat H (tr g o sr sr T :: pt tp (treO (T.ref sr) n sr) :: pt sr senO :: has g :: l)) :
    CallsH Tryz.prog 123 ⟨[pA tp, .agg ⟨[i.v, j.v]⟩, v.v]⟩ H (fun e H1 => e = .returned (.tuple ⟨[]⟩) ∧ ∃ r, Sat H1 (tr g o sr sr (ins o ⟨r, i, j, v, B, E⟩ T) :: pt tp (treO ((ins o ⟨r, i, j, v, B, E⟩ T).ref sr) (n + 1) sr) :: pt sr senO :: has g :: l)) := by
  refine F123.calls (s1_0 := i) (s1_1 := j) (s2 := v) ?_
  unfold F123.go
  (repeat (first | (refine Step.go ?_; intros) | refine iteB_t (by decide) ?_ | refine iteB_f (by decide) ?_ | (refine Duo.mk (by first | omega | exact rfl | decide) ?_; intros) | (refine Duo.mk (Clo.mk (by kernel_rfl)) ?_; intros)))
  rename_i r0 H1 S1
  have T1 : Sat H1 (pt tp (treO (T.ref sr) n sr) :: tr g o sr sr T :: pt sr senO :: has g :: l) := by
    refine S1.to ?_
    iterate 4 (apply Ent.pick; (focus (repeat (first | exact Sel.here | apply Sel.there))))
    exact Ent.drop Ent.refl
  clear S1 S
  refine call_of (create_ok (i := i) (j := j) (v := v) T1) ?_
  rintro _ H2 ⟨r, rfl, S2⟩
  (repeat (first | (refine Step.go ?_; intros) | refine iteB_t (by decide) ?_ | refine iteB_f (by decide) ?_ | (refine Duo.mk (by first | omega | exact rfl | decide) ?_; intros) | (refine Duo.mk (Clo.mk (by kernel_rfl)) ?_; intros)))
  have hz : r ≠ sr := S2.ne (r := r) (r' := sr) (o' := senO) (by (repeat (first | exact Sel.here | apply Sel.there))) (by (repeat (first | exact Sel.here | apply Sel.there)))
  have hO : OkI g o ⟨r, i, j, v, B, E⟩ := ⟨hi, hj⟩
  have T2 : Sat H2 (tr g o sr (par sr []) T :: cx g o sr (T.ref sr) (T.mx o) [] :: pt r (ndO ⟨r, i, j, v, B, E⟩ j sr sr sr true) :: pt tp (treO (rootR [] (T.ref sr)) n sr) :: pt sr senO :: has g :: l) := by
    refine S2.to ?_
    apply Ent.pick
    · (repeat (first | exact Sel.here | apply Sel.there))
    refine Ent.star ?_
    iterate 4 (apply Ent.pick; (focus (repeat (first | exact Sel.here | apply Sel.there))))
    exact Ent.refl
  exact ins_loop (z := ⟨r, i, j, v, B, E⟩) hO hz hn T [] H2 (fun f k' e => by cases e) (hT.path o ⟨r, i, j, v, B, E⟩) T2 (fun H3 S3 => ⟨rfl, r, by unfold ins; rw [setC_ref]; exact S3⟩)
end
class Blk (H : Heap) (r : Nat) (o : outParam Obj) : Prop where
  out : H[r]? = some o
section
variable {P : Program} {H : Heap} {l : List HP} {r j : Nat} {a : Addr} {cs : List Value} {T : TypeId} {fr : Nat × Nat}
theorem blk_cell {v : Value} (L : Loca a r j) (A : Blk H r (.cells ⟨cs⟩ T fr)) (N : Nth cs j v) : hcell H a = some v := by
  rw [L.out]
  exact hcell_of A.out N.out
instance (priority := 400) {kd : IntKind} {n : Int} {K : Int → Prop} [L : Loca a r j] [A : Blk H r (.cells ⟨cs⟩ T fr)] [N : Nth cs j (.int kd n)] : Step (ldInt H a kd K) (K n) := ⟨fun h => ⟨_, blk_cell L A N, h⟩⟩
instance (priority := 400) {n : Bool} {K : Bool → Prop} [L : Loca a r j] [A : Blk H r (.cells ⟨cs⟩ T fr)] [N : Nth cs j (.bool n)] : Step (ldBool H a K) (K n) := ⟨fun h => ⟨_, blk_cell L A N, h⟩⟩
instance (priority := 400) {n : ByteArray} {K : ByteArray → Prop} [L : Loca a r j] [A : Blk H r (.cells ⟨cs⟩ T fr)] [N : Nth cs j (.string n)] : Step (ldStr H a K) (K n) := ⟨fun h => ⟨_, blk_cell L A N, h⟩⟩
instance (priority := 400) {n : Option Addr} {K : Option Addr → Prop} [L : Loca a r j] [A : Blk H r (.cells ⟨cs⟩ T fr)] [N : Nth cs j (.pointer n)] : Step (ldPtr H a K) (K n) := ⟨fun h => ⟨_, blk_cell L A N, h⟩⟩
instance (priority := 400) {p : Option Addr} {n c : Nat} {K : Option Addr → Nat → Nat → Prop} [L : Loca a r j] [A : Blk H r (.cells ⟨cs⟩ T fr)] [N : Nth cs j (.slice p n c)] : Step (ldSl H a K) (K p n c) := ⟨fun h => ⟨_, _, _, blk_cell L A N, h⟩⟩
instance (priority := 400) {K : IV → Prop} [L : Loca a r j] [A : Blk H r (.cells ⟨cs⟩ T fr)] [N : Nth cs j .nilIface] : Step (ldIf H a K) (K .nil) := ⟨fun h => ⟨.nil, blk_cell L A N, h⟩⟩
instance (priority := 400) {t : TypeId} {x : Value} {K : IV → Prop} [L : Loca a r j] [A : Blk H r (.cells ⟨cs⟩ T fr)] [N : Nth cs j (.iface t x)] : Step (ldIf H a K) (K (.mk t x)) := ⟨fun h => ⟨.mk t x, blk_cell L A N, h⟩⟩
instance (priority := 400) {i : IV} {K : IV → Prop} [L : Loca a r j] [A : Blk H r (.cells ⟨cs⟩ T fr)] [N : Nth cs j i.v] : Step (ldIf H a K) (K i) := ⟨fun h => ⟨i, blk_cell L A N, h⟩⟩
end
theorem Blk.ext {H H1 : Heap} {r : Nat} {o : Obj} (h : Blk H r o) (e : ExtH H H1) : Blk H1 r o := ⟨e.block_some h.out⟩
def TrH (H : Heap) (g : PH) (o : Int) (sr : Nat) : Nat → Tr → Prop
  | _, .nil => True
  | p, .node it c t u => OkI g o it ∧ it.r ≠ sr ∧ (∃ m, IsM g o m (mx3 o it.E (t.mx o) (u.mx o)) ∧ Blk H it.r (ndO it m (t.ref sr) (u.ref sr) p c)) ∧ TrH H g o sr it.r t ∧ TrH H g o sr it.r u
section
variable {H H1 : Heap} {l m : List HP} {g : PH} {o : Int} {sr b tp : Nat}
theorem TrH.ext : ∀ {t : Tr} {p : Nat}, TrH H g o sr p t → ExtH H H1 → TrH H1 g o sr p t
  | .nil, _, _, _ => trivial
  | .node it c t u, p, ⟨h1, h2, ⟨m, h3, h4⟩, h5, h6⟩, e => ⟨h1, h2, ⟨m, h3, h4.ext e⟩, h5.ext e, h6.ext e⟩
theorem trH_of : ∀ {t : Tr} {p : Nat} {l : List HP}, Sat H (tr g o sr p t :: l) → TrH H g o sr p t
  | .nil, _, _, _ => trivial
  | .node it c t u, p, l, S => by
    obtain ⟨m, h1, h2, h3, S1⟩ := tr_open S
    refine ⟨h1, h2, ⟨m, h3, ⟨S1.at_ (by simp)⟩⟩, trH_of (S1.bring (c := tr g o sr it.r t) (by (repeat (first | exact Sel.here | apply Sel.there)))), trH_of (S1.bring (c := tr g o sr it.r u) (by (repeat (first | exact Sel.here | apply Sel.there))))⟩
theorem TrH.mem : ∀ {t : Tr} {p : Nat}, TrH H g o sr p t → ∀ {it : It}, it ∈ t.inL → OkI g o it ∧ it.r ≠ sr ∧ ∃ m x y p c, Blk H it.r (ndO it m x y p c)
  | .nil, _, _, it, h => by cases h
  | .node z c t u, p, ⟨h1, h2, ⟨m, h3, h4⟩, h5, h6⟩, it, h => by
    rw [Tr.inL] at h
    rcases List.mem_append.1 h with h | h
    · exact TrH.mem h5 h
    · rcases List.mem_cons.1 h with rfl | h
      · exact ⟨h1, h2, _, _, _, _, _, h4⟩
      · exact TrH.mem h6 h
theorem subExt {H H1 : Heap} {g : PH} (h : PH.sub g (PH.of H)) (e : ExtH H H1) : PH.sub g (PH.of H1) := h.trans fun b o x => e.block_some x
theorem cmpH {i j : IV} {x y : EN} {Q : List PanicEntry → Heap → Prop} {K : Value → Heap → Prop} (hg : PH.sub g (PH.of H)) (hi : IsG g o i x) (hj : IsG g o j y) (S : Sat H l) (k : ∀ H1, ExtH H H1 → Sat H1 l → K (.int .i64 (cmpE o x y)) H1) : callI Tryz.prog i.v "Compare" [j.v] H Q K :=
  cmp_i (hi H hg) (hj H hg) S k
theorem compareC {a b : Nat} {i j i2 j2 : IV} {x xe y ye : EN} {ca cb : List Value} {Ta Tb : TypeId} (h1 : Blk H a (.cells ⟨ca⟩ Ta)) (h2 : Blk H b (.cells ⟨cb⟩ Tb)) (a0 : ca[0]? = some i.v) (a1 : ca[1]? = some j.v) (b0 : cb[0]? = some i2.v) (b1 : cb[1]? = some j2.v)
    (hi : IsE H o i x) (hj : IsE H o j xe) (hi2 : IsE H o i2 y) (hj2 : IsE H o j2 ye) :
    CallsH Tryz.prog 136 ⟨[pA a, .iface 222 (pA b)]⟩ H (Gives (.int .i64 (cmpI o x xe y ye)) H) := by
  have S := Sat.start H
  have A1 := atOld h1.out
  have A2 := atOld h2.out
  have N1 : Nth ca 0 i.v := ⟨a0⟩
  have N2 : Nth ca 1 j.v := ⟨a1⟩
  have N3 : Nth cb 0 i2.v := ⟨b0⟩
  have N4 : Nth cb 1 j2.v := ⟨b1⟩
  refine F136.calls (c := .mk 222 (pA b)) ?_
  unfold F136.go
  (repeat (first | (refine Step.go ?_; intros) | refine iteB_t (by decide) ?_ | refine iteB_f (by decide) ?_ | (refine Duo.mk (by first | omega | exact rfl | decide) ?_; intros) | (refine Duo.mk (Clo.mk (by kernel_rfl)) ?_; intros)))
  refine nilV_of hi.mk ?_
  (repeat (first | (refine Step.go ?_; intros) | refine iteB_t (by decide) ?_ | refine iteB_f (by decide) ?_ | (refine Duo.mk (by first | omega | exact rfl | decide) ?_; intros) | (refine Duo.mk (Clo.mk (by kernel_rfl)) ?_; intros)))
  refine cmp_i hi hi2 S ?_
  intro H1 E1 S1
  (repeat (first | (refine Step.go ?_; intros) | refine iteB_t (by decide) ?_ | refine iteB_f (by decide) ?_ | (refine Duo.mk (by first | omega | exact rfl | decide) ?_; intros) | (refine Duo.mk (Clo.mk (by kernel_rfl)) ?_; intros)))
  refine nilV_of hi.mk ?_
  (repeat (first | (refine Step.go ?_; intros) | refine iteB_t (by decide) ?_ | refine iteB_f (by decide) ?_ | (refine Duo.mk (by first | omega | exact rfl | decide) ?_; intros) | (refine Duo.mk (Clo.mk (by kernel_rfl)) ?_; intros)))
  refine cmp_i (hi.ext E1) (hj2.ext E1) S1 ?_
  intro H2 E2 S2
  (repeat (first | (refine Step.go ?_; intros) | refine iteB_t (by decide) ?_ | refine iteB_f (by decide) ?_ | (refine Duo.mk (by first | omega | exact rfl | decide) ?_; intros) | (refine Duo.mk (Clo.mk (by kernel_rfl)) ?_; intros)))
  refine nilV_of hj.mk ?_
  (repeat (first | (refine Step.go ?_; intros) | refine iteB_t (by decide) ?_ | refine iteB_f (by decide) ?_ | (refine Duo.mk (by first | omega | exact rfl | decide) ?_; intros) | (refine Duo.mk (Clo.mk (by kernel_rfl)) ?_; intros)))
  refine cmp_i (hj.ext (E1.trans E2)) (hi2.ext (E1.trans E2)) S2 ?_
  intro H3 E3 S3
  have E : ExtH H H3 := Sat.grown
  (repeat (first | (refine Step.go ?_; intros) | refine iteB_t (by decide) ?_ | refine iteB_f (by decide) ?_ | (refine Duo.mk (by first | omega | exact rfl | decide) ?_; intros) | (refine Duo.mk (Clo.mk (by kernel_rfl)) ?_; intros)))
  unfold cmpI
  have l0 : ¬ (cmpE o x y < 0 ∧ cmpE o xe y ≤ 0) → F136.L0 (cmpE o x ye) H3 (Gives (.int .i64 (if cmpE o x y < 0 ∧ cmpE o xe y ≤ 0 then (-1 : Int) else if 0 ≤ cmpE o x ye then 1 else 0)) H) := by
    intro hn
    rw [if_neg hn]
    refine F136.L0_step ?_
    unfold F136.L0n
    refine iteB_i (fun h => ?_) (fun h => ?_)
    · rw [if_pos (of_decide_eq_true h)]; exact ⟨rfl, E⟩
    · rw [if_neg (of_decide_eq_false h)]; exact ⟨rfl, E⟩
  refine iteB_i (fun h => ?_) (fun h => ?_)
  · have h := of_decide_eq_true h
    refine iteB_i (fun h2 => ?_) (fun h2 => ?_)
    · rw [if_pos ⟨h, of_decide_eq_true h2⟩]; exact ⟨rfl, E⟩
    · exact l0 (fun h3 => of_decide_eq_false h2 h3.2)
  · exact l0 (fun h3 => of_decide_eq_false h h3.1)
theorem find_loop {i j : IV} {B E : EN} {n : Int} {rt vb : Nat} {H0 : Heap} (hi : IsG g o i B) (hj : IsG g o j E) : ∀ (t : Tr) (p : Nat) (H : Heap), ExtH H0 H → TrH H g o sr p t → Blk H tp (treO rt n sr) → Blk H sr senO → Blk H vb (.cells ⟨[i.v, j.v]⟩ 141) → PH.sub g (PH.of H) →
    F130.L0 (some (aA tp)) vb (some (aA (t.ref sr))) H (Gives (pA ((findT o B E t).ref sr)) H0) := by
  intro t
  induction t with
  | nil =>
    intro p H E0 hT b1 b2 b3 hg
    refine F130.L0_step ?_
    unfold F130.L0n
    (repeat (first | (refine Step.go ?_; intros) | refine iteB_t (by decide) ?_ | refine iteB_f (by decide) ?_ | (refine Duo.mk (by first | omega | exact rfl | decide) ?_; intros) | (refine Duo.mk (Clo.mk (by kernel_rfl)) ?_; intros)))
    refine pq_same ?_
    (repeat (first | (refine Step.go ?_; intros) | refine iteB_t (by decide) ?_ | refine iteB_f (by decide) ?_ | (refine Duo.mk (by first | omega | exact rfl | decide) ?_; intros) | (refine Duo.mk (Clo.mk (by kernel_rfl)) ?_; intros)))
    exact ⟨rfl, E0⟩
  | node it c t u ih1 ih2 =>
    intro p H E0 hT b1 b2 b3 hg
    obtain ⟨h1, h2, ⟨m, h3, h4⟩, h5, h6⟩ := hT
    have S := Sat.start H
    refine F130.L0_step ?_
    unfold F130.L0n
    dsimp only [Tr.ref]
    (repeat (first | (refine Step.go ?_; intros) | refine iteB_t (by decide) ?_ | refine iteB_f (by decide) ?_ | (refine Duo.mk (by first | omega | exact rfl | decide) ?_; intros) | (refine Duo.mk (Clo.mk (by kernel_rfl)) ?_; intros)))
    refine pq_ne h2 h4.out b2.out ?_
    (repeat (first | (refine Step.go ?_; intros) | refine iteB_t (by decide) ?_ | refine iteB_f (by decide) ?_ | (refine Duo.mk (by first | omega | exact rfl | decide) ?_; intros) | (refine Duo.mk (Clo.mk (by kernel_rfl)) ?_; intros)))
    refine nilV_of (hi H hg).mk ?_
    (repeat (first | (refine Step.go ?_; intros) | refine iteB_t (by decide) ?_ | refine iteB_f (by decide) ?_ | (refine Duo.mk (by first | omega | exact rfl | decide) ?_; intros) | (refine Duo.mk (Clo.mk (by kernel_rfl)) ?_; intros)))
    refine cmpH hg hi h1.1 S fun H1 E1 S1 => ?_
    have b3' := b3.ext E1
    have h4' := h4.ext E1
    have hg1 := subExt hg E1
    (repeat (first | (refine Step.go ?_; intros) | refine iteB_t (by decide) ?_ | refine iteB_f (by decide) ?_ | (refine Duo.mk (by first | omega | exact rfl | decide) ?_; intros) | (refine Duo.mk (Clo.mk (by kernel_rfl)) ?_; intros)))
    refine nilV_of (hj H hg).mk ?_
    (repeat (first | (refine Step.go ?_; intros) | refine iteB_t (by decide) ?_ | refine iteB_f (by decide) ?_ | (refine Duo.mk (by first | omega | exact rfl | decide) ?_; intros) | (refine Duo.mk (Clo.mk (by kernel_rfl)) ?_; intros)))
    refine cmpH hg1 hj h1.2 S1 fun H2 E2 S2 => ?_
    have E12 := E1.trans E2
    have h4'' := h4.ext E12
    (repeat (first | (refine Step.go ?_; intros) | refine iteB_t (by decide) ?_ | refine iteB_f (by decide) ?_ | (refine Duo.mk (by first | omega | exact rfl | decide) ?_; intros) | (refine Duo.mk (Clo.mk (by kernel_rfl)) ?_; intros)))
    have l1 : hitI o B E it = false → F130.L1 (some (aA tp)) vb (some (aA it.r)) (cmpE o B it.B) (cmpE o E it.E) H2 (Gives (pA ((findT o B E (.node it c t u)).ref sr)) H0) := by
      intro hh
      have goLeft : goL o B E it = true → F130.L0 (some (aA tp)) vb (some (aA (t.ref sr))) H2 (Gives (pA ((findT o B E (.node it c t u)).ref sr)) H0) := by
        intro hgl
        rw [findT, if_neg (by rw [hh]; simp), if_pos hgl]
        exact ih1 it.r H2 (E0.trans E12) (h5.ext E12) (b1.ext E12) (b2.ext E12) (b3.ext E12) (subExt hg E12)
      have goRight : goL o B E it = false → F130.L0 (some (aA tp)) vb (some (aA (u.ref sr))) H2 (Gives (pA ((findT o B E (.node it c t u)).ref sr)) H0) := by
        intro hgl
        rw [findT, if_neg (by rw [hh]; simp), if_neg (by rw [hgl]; simp)]
        exact ih2 it.r H2 (E0.trans E12) (h6.ext E12) (b1.ext E12) (b2.ext E12) (b3.ext E12) (subExt hg E12)
      refine F130.L1_step ?_
      unfold F130.L1n
      rw [cmpE_neg, cmpE_zero, cmpE_neg]
      refine iteB_i (fun h => ?_) (fun h => ?_)
      · (repeat (first | (refine Step.go ?_; intros) | refine iteB_t (by decide) ?_ | refine iteB_f (by decide) ?_ | (refine Duo.mk (by first | omega | exact rfl | decide) ?_; intros) | (refine Duo.mk (Clo.mk (by kernel_rfl)) ?_; intros)))
        exact goLeft (by unfold goL; rw [h]; rfl)
      refine iteB_i (fun h7 => ?_) (fun h7 => ?_)
      · rw [h] at h7
        have h8 : ltE o it.B B = false := by simpa using h7
        refine iteB_i (fun h9 => ?_) (fun h9 => ?_)
        · (repeat (first | (refine Step.go ?_; intros) | refine iteB_t (by decide) ?_ | refine iteB_f (by decide) ?_ | (refine Duo.mk (by first | omega | exact rfl | decide) ?_; intros) | (refine Duo.mk (Clo.mk (by kernel_rfl)) ?_; intros)))
          exact goLeft (by unfold goL; rw [h, h8, h9]; rfl)
        · (repeat (first | (refine Step.go ?_; intros) | refine iteB_t (by decide) ?_ | refine iteB_f (by decide) ?_ | (refine Duo.mk (by first | omega | exact rfl | decide) ?_; intros) | (refine Duo.mk (Clo.mk (by kernel_rfl)) ?_; intros)))
          exact goRight (by unfold goL; rw [h, h8, h9]; rfl)
      · rw [h] at h7
        have h8 : ltE o it.B B = true := by simpa using h7
        (repeat (first | (refine Step.go ?_; intros) | refine iteB_t (by decide) ?_ | refine iteB_f (by decide) ?_ | (refine Duo.mk (by first | omega | exact rfl | decide) ?_; intros) | (refine Duo.mk (Clo.mk (by kernel_rfl)) ?_; intros)))
        exact goRight (by unfold goL; rw [h, h8]; rfl)
    refine iteB_i (fun h => ?_) (fun h => ?_)
    · refine iteB_i (fun h7 => ?_) (fun h7 => ?_)
      · rw [findT, if_pos (by unfold hitI; rw [h, h7]; rfl)]
        exact ⟨rfl, E0.trans E12⟩
      · exact l1 (by unfold hitI; rw [h7]; simp)
    · exact l1 (by unfold hitI; rw [h]; rfl)
theorem find_ok {i j : IV} {B E : EN} {T : Tr} {n : Int} (hi : IsG g o i B) (hj : IsG g o j E) (hT : TrH H g o sr sr T) (b1 : Blk H tp (treO (T.ref sr) n sr)) (b2 : Blk H sr senO) (hg : PH.sub g (PH.of H)) :
    CallsH Tryz.prog 130 ⟨[pA tp, .agg ⟨[i.v, j.v]⟩]⟩ H (Gives (pA ((findT o B E T).ref sr)) H) := by
  have S := Sat.start H
  refine F130.calls (s1_0 := i) (s1_1 := j) ?_
  unfold F130.go
  (repeat (first | (refine Step.go ?_; intros) | refine iteB_t (by decide) ?_ | refine iteB_f (by decide) ?_ | (refine Duo.mk (by first | omega | exact rfl | decide) ?_; intros) | (refine Duo.mk (Clo.mk (by kernel_rfl)) ?_; intros)))
  rename_i r H1 S1
  have E1 : ExtH H H1 := Sat.grown
  have b1' := b1.ext E1
  (repeat (first | (refine Step.go ?_; intros) | refine iteB_t (by decide) ?_ | refine iteB_f (by decide) ?_ | (refine Duo.mk (by first | omega | exact rfl | decide) ?_; intros) | (refine Duo.mk (Clo.mk (by kernel_rfl)) ?_; intros)))
  exact find_loop hi hj T sr H1 E1 (hT.ext E1) b1' (b2.ext E1) ⟨S1.at_ (by simp)⟩ (subExt hg E1)
theorem Find_ok {i j : IV} {B E : EN} {T : Tr} {n : Int} (hi : IsG g o i B) (hj : IsG g o j E) (hT : TrH H g o sr sr T) (b1 : Blk H tp (treO (T.ref sr) n sr)) (b2 : Blk H sr senO) (hg : PH.sub g (PH.of H)) :
    CallsH Tryz.prog 121 ⟨[pA tp, .agg ⟨[i.v, j.v]⟩]⟩ H (Gives (match findT o B E T with | .nil => .pointer none | .node it _ _ _ => pA it.r) H) := by
  have S := Sat.start H
  refine F121.calls (ivl_0 := i) (ivl_1 := j) ?_
  unfold F121.go
  (repeat (first | (refine Step.go ?_; intros) | refine iteB_t (by decide) ?_ | refine iteB_f (by decide) ?_ | (refine Duo.mk (by first | omega | exact rfl | decide) ?_; intros) | (refine Duo.mk (Clo.mk (by kernel_rfl)) ?_; intros)))
  rename_i r H1 S1
  have E1 : ExtH H H1 := Sat.grown
  refine gives_i S1 (find_ok hi hj (hT.ext E1) (b1.ext E1) (b2.ext E1) (subExt hg E1)) ?_
  intro H2 E2 S2
  have E3 := E1.trans E2
  have b1' := b1.ext E3
  (repeat (first | (refine Step.go ?_; intros) | refine iteB_t (by decide) ?_ | refine iteB_f (by decide) ?_ | (refine Duo.mk (by first | omega | exact rfl | decide) ?_; intros) | (refine Duo.mk (Clo.mk (by kernel_rfl)) ?_; intros)))
  cases hf : findT o B E T with
  | nil =>
    refine pq_same ?_
    (repeat (first | (refine Step.go ?_; intros) | refine iteB_t (by decide) ?_ | refine iteB_f (by decide) ?_ | (refine Duo.mk (by first | omega | exact rfl | decide) ?_; intros) | (refine Duo.mk (Clo.mk (by kernel_rfl)) ?_; intros)))
    exact ⟨rfl, E3⟩
  | node it c t u =>
    have hsub : ∀ (T : Tr) (p : Nat), TrH H g o sr p T → findT o B E T = .node it c t u → it.r ≠ sr ∧ ∃ ob, Blk H it.r (.cells ob 146) := by
      intro T
      induction T with
      | nil => intro p _ h; simp [findT] at h
      | node z cz a b iha ihb =>
        intro p hz h
        obtain ⟨h1, h2, ⟨m, h3, h4⟩, h5, h6⟩ := hz
        unfold findT at h
        split at h
        · cases h; exact ⟨h2, _, h4⟩
        · split at h
          · exact iha _ h5 h
          · exact ihb _ h6 h
    obtain ⟨hne, ob, hb⟩ := hsub T sr hT hf
    refine pq_ne hne (hb.ext E3).out (b2.ext E3).out ?_
    (repeat (first | (refine Step.go ?_; intros) | refine iteB_t (by decide) ?_ | refine iteB_f (by decide) ?_ | (refine Duo.mk (by first | omega | exact rfl | decide) ?_; intros) | (refine Duo.mk (Clo.mk (by kernel_rfl)) ?_; intros)))
    exact ⟨rfl, E3⟩
end
end Go.Proofs.YtobolifgehagfaaGreat

set_option linter.unusedVariables false
set_option linter.unusedSimpArgs false
set_option linter.unnecessarySimpa false
namespace Go.Proofs.YtobolifgehagfaaGreat
open Go Go.Den Go.Proofs
theorem foldV_append {σ : Type} (f : σ → It → σ × Bool) : ∀ (a b : List It) (s : σ), foldV f s (a ++ b) = if (foldV f s a).2 then foldV f (foldV f s a).1 b else ((foldV f s a).1, false)
  | [], b, s => by simp [foldV]
  | x :: a, b, s => by
    rw [List.cons_append, foldV, foldV]
    cases h : (f s x).2 with
    | true => simp only [if_true]; exact foldV_append f a b _
    | false => simp
structure Vis {σ : Type} (I : σ → Heap → Prop) (f : σ → It → σ × Bool) (nv : FV) (A : List It) (w : σ → Nat) (W : Nat) : Prop where
  wt : ∀ s it, w (f s it).1 ≤ w s + 1
  ext : ∀ s H H1, I s H → ExtH H H1 → I s H1
  call : ∀ s it H Q K, it ∈ A → w s < W → I s H → (∀ H1, I (f s it).1 H1 → K (.bool (f s it).2) H1) → callV Tryz.prog nv.v [pA it.r] H Q K
theorem foldV_w {σ : Type} {f : σ → It → σ × Bool} {w : σ → Nat} (wt : ∀ s it, w (f s it).1 ≤ w s + 1) : ∀ (l : List It) (s : σ), w (foldV f s l).1 ≤ w s + l.length
  | [], s => Nat.le_refl _
  | x :: l, s => by
    rw [foldV]
    have h := wt s x
    split
    · have := foldV_w wt l (f s x).1
      simp only [List.length_cons]; omega
    · simp only [List.length_cons]; omega
structure Stand (H : Heap) (g : PH) (o : Int) (sr vb : Nat) (i j : IV) : Prop where
  b : Blk H sr senO
  g : PH.sub g (PH.of H)
  v : Blk H vb (.cells ⟨[i.v, j.v]⟩ 141)
theorem tail_b {b : Bool} {H : Heap} {Q : List PanicEntry → Heap → Prop} {K : Value → Heap → Prop} (k : K (.bool b) H) : iteB (!b) (retK K Q (.returned (.bool false)) H) (retK K Q (.returned (.bool true)) H) := by
  cases b <;> exact k
section
variable {σ : Type} {I : σ → Heap → Prop} {f : σ → It → σ × Bool} {nv : FV} {A : List It} {w : σ → Nat} {W : Nat} {g : PH} {o : Int} {sr vb tp : Nat} {i j : IV} {B E : EN}
theorem visit_ok (V : Vis I f nv A w W) (hi : IsG g o i B) (hj : IsG g o j E) (hS : ∀ s H, I s H → Stand H g o sr vb i j) : ∀ (t : Tr) (p : Nat), (∀ s H, I s H → TrH H g o sr p t) → (∀ it ∈ t.inL, it ∈ A) →
    ∀ (s : σ) (H : Heap) (Q : List PanicEntry → Heap → Prop) (K : Value → Heap → Prop), w s + (vis o B E t).length ≤ W → I s H → (∀ H1, I (foldV f s (vis o B E t)).1 H1 → K (.bool (foldV f s (vis o B E t)).2) H1) →
    callD Tryz.prog 138 [pA (t.ref sr), pA vb, pA sr, nv.v] H Q K := by
  intro t
  induction t with
  | nil =>
    intro p hT hA s H Q K hw hI k
    refine F138.calls ?_
    unfold F138.go
    refine pq_same ?_
    (repeat (first | (refine Step.go ?_; intros) | refine iteB_t (by decide) ?_ | refine iteB_f (by decide) ?_ | (refine Duo.mk (by first | omega | exact rfl | decide) ?_; intros) | (refine Duo.mk (Clo.mk (by kernel_rfl)) ?_; intros)))
    exact k H hI
  | node it c t u ih1 ih2 =>
    intro p hT hA s H Q K hw hI k
    have iht := ih1 it.r (fun s H h => (hT s H h).2.2.2.1) (fun x hx => hA x (by simp [Tr.inL, hx]))
    have ihu := ih2 it.r (fun s H h => (hT s H h).2.2.2.2) (fun x hx => hA x (by simp [Tr.inL, hx]))
    have hmem : it ∈ A := hA it (by simp [Tr.inL])
    refine F138.calls ?_
    unfold F138.go
    dsimp only [Tr.ref]
    obtain ⟨h1, h2, ⟨m, ⟨M', hm1, hm2⟩, h4⟩, h5, h6⟩ := hT s H hI
    obtain ⟨b2, hg, b3⟩ := hS s H hI
    refine pq_ne h2 h4.out b2.out ?_
    (repeat (first | (refine Step.go ?_; intros) | refine iteB_t (by decide) ?_ | refine iteB_f (by decide) ?_ | (refine Duo.mk (by first | omega | exact rfl | decide) ?_; intros) | (refine Duo.mk (Clo.mk (by kernel_rfl)) ?_; intros)))
    refine call_of (compareC b3 h4 rfl rfl rfl rfl (hi H hg) (hj H hg) (h1.1 H hg) (h1.2 H hg)) ?_
    rintro _ H1 ⟨rfl, E1⟩
    have I1 := V.ext s H H1 hI E1
    have h4' := h4.ext E1
    clear h4 h5 h6 b2 hg b3
    (repeat (first | (refine Step.go ?_; intros) | refine iteB_t (by decide) ?_ | refine iteB_f (by decide) ?_ | (refine Duo.mk (by first | omega | exact rfl | decide) ?_; intros) | (refine Duo.mk (Clo.mk (by kernel_rfl)) ?_; intros)))
    unfold vis at k hw
    refine iteB_i (fun h => ?_) (fun h => ?_)
    · rw [if_pos (of_decide_eq_true h)] at k hw
      (repeat (first | (refine Step.go ?_; intros) | refine iteB_t (by decide) ?_ | refine iteB_f (by decide) ?_ | (refine Duo.mk (by first | omega | exact rfl | decide) ?_; intros) | (refine Duo.mk (Clo.mk (by kernel_rfl)) ?_; intros)))
      refine iht s H1 _ _ hw I1 fun H2 I2 => ?_
      (repeat (first | (refine Step.go ?_; intros) | refine iteB_t (by decide) ?_ | refine iteB_f (by decide) ?_ | (refine Duo.mk (by first | omega | exact rfl | decide) ?_; intros) | (refine Duo.mk (Clo.mk (by kernel_rfl)) ?_; intros)))
      exact tail_b (k H2 I2)
    rw [if_neg (of_decide_eq_false h)] at k hw
    refine iteB_i (fun h' => ?_) (fun h' => ?_)
    · rw [if_pos (of_decide_eq_true h')] at k hw
      have S1 := Sat.start H1
      (repeat (first | (refine Step.go ?_; intros) | refine iteB_t (by decide) ?_ | refine iteB_f (by decide) ?_ | (refine Duo.mk (by first | omega | exact rfl | decide) ?_; intros) | (refine Duo.mk (Clo.mk (by kernel_rfl)) ?_; intros)))
      rename_i r _ _ _ _ H4 S4
      have E2 : ExtH H1 H4 := Sat.grown
      have I2 := V.ext s H1 H4 I1 E2
      obtain ⟨b2, hg, b3⟩ := hS s H4 I2
      refine call_of (compareC (a := r) ⟨S4.at_ (List.mem_cons_self ..)⟩ b3 rfl rfl rfl rfl (h1.1 H4 hg) (hm1 H4 hg) (hi H4 hg) (hj H4 hg)) ?_
      rintro _ H5 ⟨rfl, E3⟩
      have I3 := V.ext s H4 H5 I2 E3
      have h5' := (h4'.ext E2).ext E3
      have e : cmpI o it.B M' B E = cmpI o it.B (mx3 o it.E (t.mx o) (u.mx o)) B E := by
        unfold cmpI
        rw [show cmpE o M' B = cmpE o (mx3 o it.E (t.mx o) (u.mx o)) B from by unfold cmpE; rw [hm2.lt_l, hm2.lt_r]]
      rw [e]
      (repeat (first | (refine Step.go ?_; intros) | refine iteB_t (by decide) ?_ | refine iteB_f (by decide) ?_ | (refine Duo.mk (by first | omega | exact rfl | decide) ?_; intros) | (refine Duo.mk (Clo.mk (by kernel_rfl)) ?_; intros)))
      refine iteB_i (fun h7 => ?_) (fun h7 => ?_)
      · rw [if_pos (eq_of_beq h7), foldV_append] at k
        rw [if_pos (eq_of_beq h7), List.length_append] at hw
        have hw1 := foldV_w (f := f) V.wt (vis o B E t) s
        (repeat (first | (refine Step.go ?_; intros) | refine iteB_t (by decide) ?_ | refine iteB_f (by decide) ?_ | (refine Duo.mk (by first | omega | exact rfl | decide) ?_; intros) | (refine Duo.mk (Clo.mk (by kernel_rfl)) ?_; intros)))
        refine iht s H5 _ _ (by omega) I3 fun H6 I6 => ?_
        (repeat (first | (refine Step.go ?_; intros) | refine iteB_t (by decide) ?_ | refine iteB_f (by decide) ?_ | (refine Duo.mk (by first | omega | exact rfl | decide) ?_; intros) | (refine Duo.mk (Clo.mk (by kernel_rfl)) ?_; intros)))
        cases hb : (foldV f s (vis o B E t)).2 with
        | false =>
          rw [hb, if_neg (by simp)] at k
          exact k H6 I6
        | true =>
          rw [hb, if_pos rfl] at k
          refine iteB_f rfl ?_
          obtain ⟨_, _, ⟨m3, _, h43⟩, _, _⟩ := hT _ H6 I6
          (repeat (first | (refine Step.go ?_; intros) | refine iteB_t (by decide) ?_ | refine iteB_f (by decide) ?_ | (refine Duo.mk (by first | omega | exact rfl | decide) ?_; intros) | (refine Duo.mk (Clo.mk (by kernel_rfl)) ?_; intros)))
          refine ihu _ H6 _ _ (by omega) I6 fun H7 I7 => ?_
          (repeat (first | (refine Step.go ?_; intros) | refine iteB_t (by decide) ?_ | refine iteB_f (by decide) ?_ | (refine Duo.mk (by first | omega | exact rfl | decide) ?_; intros) | (refine Duo.mk (Clo.mk (by kernel_rfl)) ?_; intros)))
          exact tail_b (k H7 I7)
      · rw [if_neg (by simpa using h7)] at k
        exact k H5 I3
    · rw [if_neg (of_decide_eq_false h')] at k hw
      rw [foldV_append] at k
      rw [List.length_append, List.length_cons] at hw
      have hw1 := foldV_w (f := f) V.wt (vis o B E t) s
      have hw2 := V.wt (foldV f s (vis o B E t)).1 it
      (repeat (first | (refine Step.go ?_; intros) | refine iteB_t (by decide) ?_ | refine iteB_f (by decide) ?_ | (refine Duo.mk (by first | omega | exact rfl | decide) ?_; intros) | (refine Duo.mk (Clo.mk (by kernel_rfl)) ?_; intros)))
      refine iht s H1 _ _ (by omega) I1 fun H2 I2 => ?_
      (repeat (first | (refine Step.go ?_; intros) | refine iteB_t (by decide) ?_ | refine iteB_f (by decide) ?_ | (refine Duo.mk (by first | omega | exact rfl | decide) ?_; intros) | (refine Duo.mk (Clo.mk (by kernel_rfl)) ?_; intros)))
      cases hb : (foldV f s (vis o B E t)).2 with
      | false =>
        rw [hb, if_neg (by simp)] at k
        exact k H2 I2
      | true =>
        rw [hb, if_pos rfl, foldV] at k
        refine iteB_f rfl ?_
        refine V.call _ it H2 _ _ hmem (by omega) I2 fun H3 I3 => ?_
        (repeat (first | (refine Step.go ?_; intros) | refine iteB_t (by decide) ?_ | refine iteB_f (by decide) ?_ | (refine Duo.mk (by first | omega | exact rfl | decide) ?_; intros) | (refine Duo.mk (Clo.mk (by kernel_rfl)) ?_; intros)))
        cases hc : (f (foldV f s (vis o B E t)).1 it).2 with
        | false =>
          rw [hc, if_neg (by simp)] at k
          exact k H3 I3
        | true =>
          rw [hc, if_pos rfl] at k
          refine iteB_f rfl ?_
          obtain ⟨_, _, ⟨m3, _, h43⟩, _, _⟩ := hT _ H3 I3
          (repeat (first | (refine Step.go ?_; intros) | refine iteB_t (by decide) ?_ | refine iteB_f (by decide) ?_ | (refine Duo.mk (by first | omega | exact rfl | decide) ?_; intros) | (refine Duo.mk (Clo.mk (by kernel_rfl)) ?_; intros)))
          refine ihu _ H3 _ _ (by omega) I3 fun H4 I4 => ?_
          (repeat (first | (refine Step.go ?_; intros) | refine iteB_t (by decide) ?_ | refine iteB_f (by decide) ?_ | (refine Duo.mk (by first | omega | exact rfl | decide) ?_; intros) | (refine Duo.mk (Clo.mk (by kernel_rfl)) ?_; intros)))
          exact tail_b (k H4 I4)
structure VisJ {σ : Type} (J : σ → List HP → Heap → Prop) (f : σ → It → σ × Bool) (nv : FV) (A : List It) (w : σ → Nat) (W : Nat) : Prop where
  wt : ∀ s it, w (f s it).1 ≤ w s + 1
  grow : ∀ s l m H H1, J s l H → Sat H1 (m ++ [Den.old H]) → J s (m ++ l) H1
  sat : ∀ s l H, J s l H → Sat H l
  drop : ∀ s m l H, J s (m ++ l) H → J s l H
  call : ∀ s l it H Q K, it ∈ A → w s < W → J s l H → (∀ H1, J (f s it).1 l H1 → K (.bool (f s it).2) H1) → callV Tryz.prog nv.v [pA it.r] H Q K
theorem VisJ.ext {J : σ → List HP → Heap → Prop} (V : VisJ J f nv A w W) {s : σ} {l : List HP} {H H1 : Heap} (h : J s l H) (e : ExtH H H1) : J s l H1 :=
  V.grow s l [] H H1 h (Sat.ext (Sat.start H) e)
structure StandT (H : Heap) (g : PH) (o : Int) (sr tp : Nat) (n : Int) (T : Tr) : Prop where
  t : TrH H g o sr sr T
  r : Blk H tp (treO (T.ref sr) n sr)
  b : Blk H sr senO
  g : PH.sub g (PH.of H)
theorem StandT.ext {H H1 : Heap} {n : Int} {T : Tr} (h : StandT H g o sr tp n T) (e : ExtH H H1) : StandT H1 g o sr tp n T := ⟨h.t.ext e, h.r.ext e, h.b.ext e, subExt h.g e⟩
theorem Visit_ok {J : σ → List HP → Heap → Prop} {T : Tr} {n : Int} {Q : List PanicEntry → Heap → Prop} {K : Value → Heap → Prop} (V : VisJ J f nv T.inL w W) (hi : IsG g o i B) (hj : IsG g o j E) (hS : ∀ s l H, J s l H → StandT H g o sr tp n T)
    {s : σ} {l : List HP} {H : Heap} (hw : w s + (vis o B E T).length ≤ W) (h0 : J s l H) (k : ∀ H1, J (foldV f s (vis o B E T)).1 l H1 → K (.tuple ⟨[]⟩) H1) :
    callD Tryz.prog 129 [pA tp, .agg ⟨[i.v, j.v]⟩, nv.v] H Q K := by
  refine F129.calls (ivl_0 := i) (ivl_1 := j) (ivv := nv) ?_
  unfold F129.go
  have S := Sat.start H
  (repeat (first | (refine Step.go ?_; intros) | refine iteB_t (by decide) ?_ | refine iteB_f (by decide) ?_ | (refine Duo.mk (by first | omega | exact rfl | decide) ?_; intros) | (refine Duo.mk (Clo.mk (by kernel_rfl)) ?_; intros)))
  rw [isCell_FV]
  (repeat (first | (refine Step.go ?_; intros) | refine iteB_t (by decide) ?_ | refine iteB_f (by decide) ?_ | (refine Duo.mk (by first | omega | exact rfl | decide) ?_; intros) | (refine Duo.mk (Clo.mk (by kernel_rfl)) ?_; intros)))
  rename_i r H1 S1 r1 H2 S2
  obtain ⟨t1, t2, t3, t4⟩ := hS s l H h0
  have E2 : ExtH H H2 := Sat.grown
  have t2' := t2.ext E2
  (repeat (first | (refine Step.go ?_; intros) | refine iteB_t (by decide) ?_ | refine iteB_f (by decide) ?_ | (refine Duo.mk (by first | omega | exact rfl | decide) ?_; intros) | (refine Duo.mk (Clo.mk (by kernel_rfl)) ?_; intros)))
  have J2 : J s ([pt r1 (.cells ⟨[nv.v]⟩ 224), pt r (.cells ⟨[i.v, j.v]⟩ 141)] ++ l) H2 := V.grow s l _ H H2 h0 S2
  have V2 : Vis (fun s H => J s ([pt r1 (.cells ⟨[nv.v]⟩ 224), pt r (.cells ⟨[i.v, j.v]⟩ 141)] ++ l) H) f (.mk (.func 139) ⟨[]⟩ ⟨[pA r1]⟩) T.inL w W := by
    refine ⟨V.wt, fun s H H1 h e => V.ext h e, fun s it H Q K hit hw h k => ?_⟩
    have S := V.sat _ _ _ h
    refine Step.go (Duo.mk (Clo.mk (by kernel_rfl)) ?_)
    refine F139.calls ?_
    unfold F139.go
    simp only [List.cons_append, List.nil_append] at S
    (repeat (first | (refine Step.go ?_; intros) | refine iteB_t (by decide) ?_ | refine iteB_f (by decide) ?_ | (refine Duo.mk (by first | omega | exact rfl | decide) ?_; intros) | (refine Duo.mk (Clo.mk (by kernel_rfl)) ?_; intros)))
    refine V.call _ _ it _ _ _ hit hw h fun H1 h1 => ?_
    (repeat (first | (refine Step.go ?_; intros) | refine iteB_t (by decide) ?_ | refine iteB_f (by decide) ?_ | (refine Duo.mk (by first | omega | exact rfl | decide) ?_; intros) | (refine Duo.mk (Clo.mk (by kernel_rfl)) ?_; intros)))
    exact k H1 h1
  refine visit_ok (vb := r) V2 hi hj (fun s H h => ?_) T sr (fun s H h => (hS s _ H h).t) (fun _ h => h) s H2 _ _ hw J2 fun H3 J3 => ?_
  · have S := V.sat _ _ _ h
    have t := hS s _ H h
    exact ⟨t.b, t.g, ⟨S.at_ (by simp)⟩⟩
  · (repeat (first | (refine Step.go ?_; intros) | refine iteB_t (by decide) ?_ | refine iteB_f (by decide) ?_ | (refine Duo.mk (by first | omega | exact rfl | decide) ?_; intros) | (refine Duo.mk (Clo.mk (by kernel_rfl)) ?_; intros)))
    exact k H3 (V.drop _ _ _ _ J3)
end
end Go.Proofs.YtobolifgehagfaaGreat

set_option linter.unusedVariables false
set_option linter.unusedSimpArgs false
set_option linter.unnecessarySimpa false
namespace Go.Proofs.YtobolifgehagfaaGreat
open Go Go.Den Go.Proofs
abbrev ptrs (it : It) : List Value := [pA it.r]
def addF : List It → It → List It × Bool := fun s it => (s ++ [it], true)
theorem foldV_add : ∀ (l s : List It), foldV addF s l = (s ++ l, true)
  | [], s => by simp [foldV]
  | x :: l, s => by
    show foldV addF (s ++ [x]) l = _
    rw [foldV_add l]
    simp
section
variable {H : Heap} {l : List HP} {g : PH} {o : Int} {sr b tp : Nat} {T : Tr} {n : Int} {i j : IV} {B E : EN}
def StabJ (g : PH) (o : Int) (sr tp : Nat) (n : Int) (T : Tr) (r1 : Nat) (s : List It) (l : List HP) (H : Heap) : Prop :=
  ∃ p c, Sat H (pt r1 (.cells ⟨[.slice p s.length c]⟩ 159) :: sl ptrs 151 1 p s.length c s :: tr g o sr sr T :: pt tp (treO (T.ref sr) n sr) :: pt sr senO :: has g :: l)
theorem stab_vis {r1 : Nat} : VisJ (StabJ g o sr tp n T r1) addF (.mk (.func 137) ⟨[]⟩ ⟨[pA r1]⟩) T.inL List.length 1000000 := by
  refine ⟨fun s it => by simp [addF], ?_, ?_, ?_, ?_⟩
  · rintro s l m H H1 ⟨p, c, S⟩ S1
    refine ⟨p, c, (S1.onto S).to ?_⟩
    refine fun k x => SatP.perm ?_ x
    have := (List.perm_append_comm (l₁ := m) (l₂ := [pt r1 (.cells ⟨[.slice p s.length c]⟩ 159), sl ptrs 151 1 p s.length c s, tr g o sr sr T, pt tp (treO (T.ref sr) n sr), pt sr senO, has g])).append_right l
    simpa using this
  · rintro s l H ⟨p, c, S⟩
    exact S.to (Ent.drop (Ent.drop (Ent.drop (Ent.drop (Ent.drop (Ent.drop .refl))))))
  · rintro s m l H ⟨p, c, S⟩
    refine ⟨p, c, S.to ?_⟩
    refine Ent.cons (Ent.cons (Ent.cons (Ent.cons (Ent.cons (Ent.cons ?_)))))
    intro k x
    obtain ⟨h, _, _, y⟩ := star_in x
    exact y.mono PH.minus_sub
  · rintro s l it H Q K hit hw ⟨p, c, S⟩ k
    refine Step.go (Duo.mk (Clo.mk (by kernel_rfl)) ?_)
    refine F137.calls ?_
    unfold F137.go
    (repeat (first | (refine Step.go ?_; intros) | refine iteB_t (by decide) ?_ | refine iteB_f (by decide) ?_ | (refine Duo.mk (by first | omega | exact rfl | decide) ?_; intros) | (refine Duo.mk (Clo.mk (by kernel_rfl)) ?_; intros)))
    rename_i r H1 S1
    have S2 := S1.bring (c := sl ptrs 151 1 p s.length c s) (by (repeat (first | exact Sel.here | apply Sel.there)))
    refine S2.slApp (ys := [it]) (q := some ⟨r, 0, none⟩) (d := 1) ?_ rfl (by simp) (by simp [isCell]) rfl (by decide) (by omega) ?_
    · intro j v hj
      refine ⟨_, rfl, ?_⟩
      have : hcell H1 (aA r) = some (pA it.r) := hcell_of (S1.at_ (List.mem_cons_self ..)) rfl
      match j, hj with
      | 0, hj => simp at hj; subst hj; exact this
      | j + 1, hj => simp at hj
    · intro p' c' H2 S3
      (repeat (first | (refine Step.go ?_; intros) | refine iteB_t (by decide) ?_ | refine iteB_f (by decide) ?_ | (refine Duo.mk (by first | omega | exact rfl | decide) ?_; intros) | (refine Duo.mk (Clo.mk (by kernel_rfl)) ?_; intros)))
      rename_i H3 S4
      refine k H3 ⟨p', c', ?_⟩
      have e : (addF s it).1.length = s.length + 1 := by simp [addF]
      rw [e]
      refine S4.to ?_
      iterate 6 (apply Ent.pick; (focus (repeat (first | exact Sel.here | apply Sel.there))))
      exact Ent.drop Ent.refl
theorem vis_le : ∀ T : Tr, (vis o B E T).length ≤ T.inL.length
  | .nil => Nat.le_refl _
  | .node it c t u => by
    have h1 := vis_le t
    have h2 := vis_le u
    unfold vis
    simp only [Tr.inL, List.length_append, List.length_cons]
    split
    · omega
    · split
      · split
        · rw [List.length_append]; omega
        · simp
      · rw [List.length_append, List.length_cons]; omega
theorem standT (S : Sat H l) {m r1 r2 r3 : List HP} (s1 : Sel (tr g o sr sr T) l m) (s2 : Sel (pt tp (treO (T.ref sr) n sr)) l r1) (s3 : Sel (pt sr senO) l r2) (s4 : Sel (has g) l r3) : StandT H g o sr tp n T :=
  ⟨trH_of (S.bring s1), ⟨S.at_ (s2.perm.mem_iff.2 (List.mem_cons_self ..))⟩, ⟨S.at_ (s3.perm.mem_iff.2 (List.mem_cons_self ..))⟩, HasG.sub ⟨s4.perm.mem_iff.2 (List.mem_cons_self ..)⟩ S⟩
theorem Stab_ok (hi : IsG g o i B) (hj : IsG g o j E) (hn : n = (T.inL.length : Int)) (hl : T.inL.length ≤ 1000000) (S : Sat H (tr g o sr sr T :: pt tp (treO (T.ref sr) n sr) :: pt sr senO :: has g :: l)) :
    CallsH Tryz.prog 127 ⟨[pA tp, .agg ⟨[i.v, j.v]⟩]⟩ H (fun e H1 => ∃ p c, e = .returned (.slice p (vis o B E T).length c) ∧ Sat H1 (sl ptrs 151 1 p (vis o B E T).length c (vis o B E T) :: tr g o sr sr T :: pt tp (treO (T.ref sr) n sr) :: pt sr senO :: has g :: l)) := by
  refine F127.calls (iv_0 := i) (iv_1 := j) ?_
  unfold F127.go
  (repeat (first | (refine Step.go ?_; intros) | refine iteB_t (by decide) ?_ | refine iteB_f (by decide) ?_ | (refine Duo.mk (by first | omega | exact rfl | decide) ?_; intros) | (refine Duo.mk (Clo.mk (by kernel_rfl)) ?_; intros)))
  rename_i r H1 S1 r1 H2 S2
  refine iteB_i (fun h => ?_) (fun h => ?_)
  · have h := eq_of_beq h
    have hv : vis o B E T = [] := List.eq_nil_of_length_eq_zero (by have := vis_le (o := o) (B := B) (E := E) T; omega)
    rw [hv]
    (repeat (first | (refine Step.go ?_; intros) | refine iteB_t (by decide) ?_ | refine iteB_f (by decide) ?_ | (refine Duo.mk (by first | omega | exact rfl | decide) ?_; intros) | (refine Duo.mk (Clo.mk (by kernel_rfl)) ?_; intros)))
    rename_i H3 S3
    refine ⟨none, 0, rfl, S3.to (Ent.slNil ?_)⟩
    iterate 4 (apply Ent.pick; (focus (repeat (first | exact Sel.here | apply Sel.there))))
    exact Ent.drop (Ent.drop Ent.refl)
  · (repeat (first | (refine Step.go ?_; intros) | refine iteB_t (by decide) ?_ | refine iteB_f (by decide) ?_ | (refine Duo.mk (by first | omega | exact rfl | decide) ?_; intros) | (refine Duo.mk (Clo.mk (by kernel_rfl)) ?_; intros)))
    have J0 : StabJ g o sr tp n T r1 [] (pt r (.cells ⟨[i.v, j.v]⟩ 141) :: l) H2 := by
      refine ⟨none, 0, S2.to ?_⟩
      apply Ent.pick
      · (repeat (first | exact Sel.here | apply Sel.there))
      refine Ent.slNil ?_
      iterate 5 (apply Ent.pick; (focus (repeat (first | exact Sel.here | apply Sel.there))))
      exact Ent.refl
    refine Visit_ok (g := g) (o := o) (sr := sr) (n := n) (T := T) (nv := .mk (.func 137) ⟨[]⟩ ⟨[pA r1]⟩) stab_vis hi hj ?_ ?_ J0 ?_
    · rintro s l H ⟨p, c, S⟩
      exact standT S (by (repeat (first | exact Sel.here | apply Sel.there))) (by (repeat (first | exact Sel.here | apply Sel.there))) (by (repeat (first | exact Sel.here | apply Sel.there))) (by (repeat (first | exact Sel.here | apply Sel.there)))
    · have := vis_le (o := o) (B := B) (E := E) T
      simp; omega
    · rintro H3 ⟨p, c, S3⟩
      rw [foldV_add] at S3
      simp only [List.nil_append] at S3
      (repeat (first | (refine Step.go ?_; intros) | refine iteB_t (by decide) ?_ | refine iteB_f (by decide) ?_ | (refine Duo.mk (by first | omega | exact rfl | decide) ?_; intros) | (refine Duo.mk (Clo.mk (by kernel_rfl)) ?_; intros)))
      rename_i H4 S4
      refine ⟨p, c, rfl, S4.to ?_⟩
      iterate 5 (apply Ent.pick; (focus (repeat (first | exact Sel.here | apply Sel.there))))
      exact Ent.drop (Ent.drop Ent.refl)
end
end Go.Proofs.YtobolifgehagfaaGreat
