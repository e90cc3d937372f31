/- What functions of this seat do, each proved by a walk; no condition. -/
import Derived.Test.YtkenjnllegbmjaaQK
set_option linter.unusedVariables false
namespace Go.Proofs.Ytkenjnllegbmjaa
open Go Go.Den Go.Proofs
def kq (x : QOp) : Int × Int := (x.id, x.a)
instance {a b c : Int} : Enc QOp.cells [.int .i64 a, .int .i64 b, .int .i64 c] ⟨a, b, c⟩ := ⟨rfl⟩
/-- The least time among calls: -1: there is none. -/
def leastS (acc : Int) (x : QOp) : Int := if acc < 0 ∨ x.a < acc then x.a else acc
def leastF (l : List QOp) : Int := l.foldl leastS (-1)
def keepB (o : QOp) (a : QAn) (x : QOp) : Bool := (o.k == 1 && x.id != o.id) || (o.k == 3 && x.id != a.id) || o.k == 2 || o.k == 4
def hitB (a : QAn) (x : QOp) : Bool := x.id == a.id && x.a == a.a
theorem leastF_spec : ∀ (l : List QOp) (acc : Int), (∀ x ∈ l, 0 ≤ x.a) → (acc < 0 → acc = -1) → (l.foldl leastS acc < 0 ↔ acc < 0 ∧ l = []) ∧ (∀ x ∈ l, l.foldl leastS acc ≤ x.a) ∧ (0 ≤ acc → l.foldl leastS acc ≤ acc) ∧ (l.foldl leastS acc = acc ∨ ∃ x ∈ l, l.foldl leastS acc = x.a)
  | [], acc, _, _ => by simp
  | y :: l, acc, h, ha => by
    have hy := h y (List.mem_cons_self ..)
    have h' : ∀ x ∈ l, 0 ≤ x.a := fun x hx => h x (List.mem_cons_of_mem _ hx)
    have ih := leastF_spec l (leastS acc y) h' (fun hh => by unfold leastS at hh; split at hh <;> omega)
    simp only [List.foldl_cons]
    obtain ⟨i1, i2, i3, i4⟩ := ih
    have e0 : 0 ≤ leastS acc y := by unfold leastS; split <;> omega
    have e1 : leastS acc y ≤ y.a := by unfold leastS; split <;> omega
    have e2 : 0 ≤ acc → leastS acc y ≤ acc := by intro hh; unfold leastS; split <;> omega
    refine ⟨⟨fun hh => ?_, fun hh => by cases hh.2⟩, fun x hx => ?_, fun hh => ?_, ?_⟩
    · have := (i1.1 hh).1; omega
    · rcases List.mem_cons.1 hx with rfl | hx
      · have := i3 e0; omega
      · exact i2 x hx
    · have := i3 e0; have := e2 hh; omega
    · rcases i4 with i4 | ⟨x, hx, i4⟩
      · rw [i4]
        unfold leastS
        split
        · exact .inr ⟨y, List.mem_cons_self .., rfl⟩
        · exact .inl rfl
      · exact .inr ⟨x, List.mem_cons_of_mem _ hx, i4⟩
theorem leastF_min {l : List QOp} {a : Int} (h : ∀ x ∈ l, 0 ≤ x.a) (hm : ∃ x ∈ l, x.a = a) (hl : ∀ x ∈ l, a ≤ x.a) : leastF l = a := by
  obtain ⟨i1, i2, i3, i4⟩ := leastF_spec l (-1) h (fun _ => rfl)
  obtain ⟨x, hx, rfl⟩ := hm
  have h1 := i2 x hx
  have h2 : ¬ leastF l < 0 := fun hh => by have := (i1.1 hh).2; subst this; cases hx
  rcases i4 with i4 | ⟨y, hy, i4⟩
  · unfold leastF at h2; omega
  · have := hl y hy
    unfold leastF at *
    omega
theorem take_snoc {α : Type} {l : List α} {i : Nat} {x : α} (h : l[i]? = some x) : l.take (i + 1) = l.take i ++ [x] := by rw [List.take_add_one, h]; rfl
/-- What comes behind the calls' own list. -/
theorem after_ok {L L' : List (Int × Int)} {o : QOp} {a : QAn} {lw : List QOp} (hs : QStep L o a L') (hp : (lw.map kq).Perm L) (hn : (L.map (·.1)).Nodup) (hk : 1 ≤ o.k ∧ o.k ≤ 4) : ((lw.filter (keepB o a) ++ (if o.k = 1 then [o] else [])).map kq).Perm L' := by
  have hc : o.k = 1 ∨ o.k = 2 ∨ o.k = 3 ∨ o.k = 4 := by omega
  have fm : ∀ (p : Int × Int → Bool) (q : QOp → Bool), (∀ x, q x = p (kq x)) → ((lw.filter q).map kq).Perm (L.filter p) := by
    intro p q hq
    have : (lw.filter q).map kq = (lw.map kq).filter p := by
      rw [List.filter_map]
      congr 1
      refine List.filter_congr fun x _ => ?_
      rw [hq]; rfl
    rw [this]
    exact hp.filter p
  rcases hc with h | h | h | h
  · rw [if_pos h, List.map_append]
    refine .trans ?_ (hs.reg h).symm
    exact (fm (fun q => q.1 != o.id) (keepB o a) (fun x => by simp [keepB, h, kq])).append_right _
  · rw [if_neg (by omega), List.append_nil, (hs.peek h).1]
    have := fm (fun _ => true) (keepB o a) (fun x => by simp [keepB, h])
    rw [List.filter_eq_self.2 (fun _ _ => rfl)] at this
    exact this
  · rw [if_neg (by omega), List.append_nil]
    obtain ⟨_, h1, h2⟩ := hs.pop h
    have h3 := fm (fun q => q.1 != a.id) (keepB o a) (fun x => by simp [keepB, h, kq])
    refine h3.trans ?_
    by_cases hL : L = []
    · rw [h1 hL, hL]; simp
    · have h4 := h2 hL
      have h5 := (h4.map (·.1)).nodup_iff.1 hn
      simp only [List.map_cons, List.nodup_cons] at h5
      refine (h4.filter _).trans ?_
      rw [List.filter_cons]
      simp only [bne_self_eq_false, Bool.false_eq_true, if_false]
      rw [List.filter_eq_self.2 fun q hq => by simp; intro e; exact h5.1 (e ▸ List.mem_map_of_mem hq)]
  · rw [if_neg (by omega), List.append_nil, (hs.len h).1]
    have := fm (fun _ => true) (keepB o a) (fun x => by simp [keepB, h])
    rw [List.filter_eq_self.2 (fun _ _ => rfl)] at this
    exact this
theorem told_ok {L : List (Int × Int)} {a : QAn} {lw : List QOp} (ht : Told L a) (hp : (lw.map kq).Perm L) (h0 : ∀ x ∈ lw, 0 ≤ x.a) : (a.ok = decide ((lw.length : Int) > 0)) ∧ (a.ok = true → a.a = leastF lw ∧ lw.any (hitB a) = true) := by
  have hl := hp.length_eq
  simp at hl
  rcases ht with ⟨rfl, h1⟩ | ⟨h1, h2, h3, h4⟩
  · have : lw = [] := List.eq_nil_of_length_eq_zero (by simpa using hl)
    subst this
    exact ⟨by rw [h1]; rfl, fun h => by rw [h1] at h; cases h⟩
  · have hne : 0 < lw.length := by
      rw [hl]
      cases L with
      | nil => exact absurd rfl h1
      | cons x L => simp
    have h5 : (a.id, a.a) ∈ lw.map kq := hp.mem_iff.2 h3
    obtain ⟨x, hx, he⟩ := List.mem_map.1 h5
    simp only [kq, Prod.mk.injEq] at he
    refine ⟨by rw [h2]; simp; omega, fun _ => ⟨?_, ?_⟩⟩
    · refine (leastF_min h0 ⟨x, hx, he.2⟩ fun y hy => ?_).symm
      exact h4 (kq y) (hp.mem_iff.1 (List.mem_map_of_mem hy))
    · rw [List.any_eq_true]
      exact ⟨x, hx, by simp [hitB, he.1, he.2]⟩
end Go.Proofs.Ytkenjnllegbmjaa
