/- A plain reading of Go functions, proved to be what they do; no condition. -/
/- What came in, read field by field, and rows of it as lists. -/
import Derived.Test.YtobolifgehagfaaGreatDenZ
import Derived.Test.YtobolifgehagfaaGreatDenC
set_option linter.unusedVariables false
set_option linter.unusedSimpArgs false
namespace Go.Den
open Go
def structB (P : Program) (t : TypeId) : Bool := match P.underlying t with | some (.struct _) => true | _ => false
def fieldsOf (P : Program) (t : TypeId) : List (TypeId × Nat) := match P.underlying t with | some (.struct fs) => fs.toList.map fun x => (x.type, x.offset) | _ => []
def partsOk {P : Program} (R : TypeId → List Value → Prop) (cs : List Value) : List (TypeId × Nat) → Prop
  | [] => True
  | p :: r => R p.1 ((cs.drop p.2).take (P.cellsOf p.1)) ∧ partsOk (P := P) R cs r
section
variable {P : Program} {H : Heap} {f : Nat} {t e : TypeId} {cs : List Value}
theorem rd_pos (h : Rd P H f t cs) : ∃ g, f = g + 1 := by cases f with | zero => exact h.elim | succ g => exact ⟨g, rfl⟩
theorem rd_struct (h : Rd P H f t cs) {k : Nat} {fs : List (TypeId × Nat)} (hs : structB P t = true) (hk : P.cellsOf t = k) (hf : fieldsOf P t = fs) : ∃ g, cs.length = k ∧ partsOk (P := P) (Rd P H g) cs fs := by
  obtain ⟨g, rfl⟩ := rd_pos h
  unfold structB at hs
  unfold fieldsOf at hf
  unfold Rd at h
  split at hs
  · rename_i xs hu
    rw [hu] at h hf
    obtain ⟨h1, h2⟩ := h
    refine ⟨g, h1.trans hk, ?_⟩
    dsimp only at hf
    subst hf
    have key : ∀ (l : List Field), (∀ x ∈ l, Rd P H g x.type ((cs.drop x.offset).take (P.cellsOf x.type))) → partsOk (P := P) (Rd P H g) cs (l.map fun x => (x.type, x.offset)) := by
      intro l
      induction l with
      | nil => intro _; trivial
      | cons x l ih => intro h; exact ⟨h x (List.mem_cons_self ..), ih fun y hy => h y (List.mem_cons_of_mem _ hy)⟩
    exact key _ h2
  · cases hs
theorem rd_int (h : Rd P H f t cs) {k : IntKind} (hu : P.underlying t = some (.int k)) : ∃ n, cs = [.int k n] ∧ k.min ≤ n ∧ n ≤ k.max := by
  obtain ⟨g, rfl⟩ := rd_pos h
  unfold Rd at h; rw [hu] at h; exact h
theorem rd_bool (h : Rd P H f t cs) (hu : P.underlying t = some .bool) : ∃ b, cs = [.bool b] := by
  obtain ⟨g, rfl⟩ := rd_pos h
  unfold Rd at h; rw [hu] at h; exact h
theorem rd_str (h : Rd P H f t cs) (hu : P.underlying t = some .string) : ∃ s, cs = [.string s] ∧ s.size ≤ maxLen := by
  obtain ⟨g, rfl⟩ := rd_pos h
  unfold Rd at h; rw [hu] at h; exact h
/-- A slice that came in, as a list of records. -/
theorem rd_slice {α : Type} {fl : α → List Value} {z : Nat} (h : Rd P H f t cs) (hu : P.underlying t = some (.slice e)) (hz : P.cellsOf e = z) {good : α → Prop}
    (hd : ∀ g es, Rd P H g e es → ∃ x, es = fl x ∧ good x) : ∃ p n c l, cs = [.slice p n c] ∧ n = l.length ∧ n ≤ c ∧ c ≤ maxLen ∧ RowsAt fl z H p l ∧ ∀ x ∈ l, good x := by
  obtain ⟨g, rfl⟩ := rd_pos h
  unfold Rd at h
  rw [hu] at h
  rcases h with h | ⟨a, n, c, h, h1, h2, h3⟩
  · exact ⟨none, 0, 0, [], h, rfl, Nat.le_refl _, Nat.zero_le _, .inl rfl, by simp⟩
  · have key : ∀ m, m ≤ n → ∃ l : List α, l.length = m ∧ (∀ x ∈ l, good x) ∧ ∀ (i : Nat) (x : α), l[i]? = some x → ∀ (j : Nat) (v : Value), (fl x)[j]? = some v → hcell H ((a.add (i * z)).add j) = some v := by
      intro m
      induction m with
      | zero => intro _; exact ⟨[], rfl, by simp, by simp⟩
      | succ m ih =>
        intro hm
        obtain ⟨l, k1, k2, k3⟩ := ih (by omega)
        obtain ⟨es, k4, k5⟩ := h3 m (by omega)
        obtain ⟨x, rfl, gx⟩ := hd _ _ k5
        refine ⟨l ++ [x], by simp [k1], ?_, ?_⟩
        · intro y hy
          rcases List.mem_append.1 hy with hy | hy
          · exact k2 y hy
          · simp at hy; subst hy; exact gx
        · intro i y hi j v hj
          rcases Nat.lt_trichotomy i l.length with hl | hl | hl
          · rw [List.getElem?_append_left hl] at hi
            exact k3 i y hi j v hj
          · subst hl
            simp at hi
            subst hi
            have := k4.2 j v hj
            rw [hz] at this
            rwa [k1]
          · rw [List.getElem?_eq_none (by simp; omega)] at hi; cases hi
    obtain ⟨l, k1, k2, k3⟩ := key n (Nat.le_refl _)
    exact ⟨some a, n, c, l, h, k1.symm, h1, h2, .inr ⟨a, rfl, k3⟩, k2⟩
end
theorem cons_of {α : Type} {cs : List α} {n : Nat} (h : cs.length = n + 1) : ∃ a r, cs = a :: r ∧ r.length = n := by
  cases cs with
  | nil => cases h
  | cons a r => exact ⟨a, r, rfl, by simpa using h⟩
end Go.Den
