/- A plain reading of Go functions, proved to be what they do; no condition. -/
/- What came in, read: the shapes of its cells, out of the row's own reading. -/
import Derived.Test.YtobolifgehagfaaGreatDenX
import Derived.Carry
set_option linter.unusedVariables false
set_option linter.unusedSimpArgs false
namespace Go.Den
open Go
/-- n cells lie from a on. -/
def cellsOn (H : Heap) (a : Addr) (n : Nat) (es : List Value) : Prop := es.length = n ∧ ∀ j v, es[j]? = some v → hcell H (a.add j) = some v
def Rd (P : Program) (H : Heap) : Nat → TypeId → List Value → Prop
  | 0, _, _ => False
  | f + 1, t, cs => match P.underlying t with
    | some .bool => ∃ b, cs = [.bool b]
    | some (.int k) => ∃ n, cs = [.int k n] ∧ k.min ≤ n ∧ n ≤ k.max
    | some .string => ∃ s, cs = [.string s] ∧ s.size ≤ maxLen
    | some (.slice e) => cs = [.slice none 0 0] ∨ ∃ a len cap, cs = [.slice (some a) len cap] ∧ len ≤ cap ∧ cap ≤ maxLen ∧ ∀ i, i < len → ∃ es, cellsOn H (a.add (i * P.cellsOf e)) (P.cellsOf e) es ∧ Rd P H f e es
    | some (.struct fs) => cs.length = P.cellsOf t ∧ ∀ x ∈ fs.toList, Rd P H f x.type ((cs.drop x.offset).take (P.cellsOf x.type))
    | some (.pointer e) => cs = [.pointer none] ∨ ∃ a, cs = [.pointer (some a)] ∧ ∃ es, cellsOn H a (P.cellsOf e) es ∧ Rd P H f e es
    | _ => True
theorem mapM_range {α : Type} {f : Nat → Option α} : ∀ {n : Nat} {xs : List α}, (List.range n).mapM f = some xs → xs.length = n ∧ ∀ i, i < n → ∃ x, f i = some x ∧ xs[i]? = some x := by
  have key : ∀ (l : List Nat) (xs : List α), l.mapM f = some xs → xs.length = l.length ∧ ∀ (j i : Nat), l[j]? = some i → ∃ x, f i = some x ∧ xs[j]? = some x := by
    intro l
    induction l with
    | nil => intro xs h; simp at h; subst h; simp
    | cons a l ih =>
      intro xs h
      simp only [List.mapM_cons, Option.bind_eq_bind, Option.pure_def] at h
      cases hf : f a with
      | none => simp [hf] at h
      | some y =>
        cases hr : l.mapM f with
        | none => simp [hf, hr] at h
        | some ys =>
          simp [hf, hr] at h
          subst h
          obtain ⟨h1, h2⟩ := ih ys hr
          refine ⟨by simp [h1], fun j i hj => ?_⟩
          cases j with
          | zero => simp at hj; subst hj; exact ⟨y, hf, rfl⟩
          | succ j => simp at hj; obtain ⟨x, h3, h4⟩ := h2 j i hj; exact ⟨x, h3, by simpa using h4⟩
  intro n xs h
  obtain ⟨h1, h2⟩ := key _ _ h
  refine ⟨by simpa using h1, fun i hi => ?_⟩
  exact h2 i i (by simp [hi])
theorem mapM_mem {α β : Type} {f : α → Option β} : ∀ {l : List α} {xs : List β}, l.mapM f = some xs → ∀ x ∈ l, ∃ y, f x = some y := by
  intro l
  induction l with
  | nil => intro xs _ x hx; cases hx
  | cons a l ih =>
    intro xs h x hx
    simp only [List.mapM_cons, Option.bind_eq_bind, Option.pure_def] at h
    cases hf : f a with
    | none => simp [hf] at h
    | some y =>
      cases hr : l.mapM f with
      | none => simp [hf, hr] at h
      | some ys =>
        rcases List.mem_cons.1 hx with rfl | hx
        · exact ⟨y, hf⟩
        · exact ih hr x hx
theorem cells?_on {w : World} {b : Nat} {a : Addr} {n : Nat} {es : List Value} (h : w.cells? b a n = some es) : cellsOn w.heap a n es := by
  unfold World.cells? at h
  split at h
  · obtain ⟨h1, h2⟩ := mapM_range h
    refine ⟨h1, fun j v hj => ?_⟩
    have hlt : j < n := by
      rcases Nat.lt_or_ge j n with h | h
      · exact h
      · rw [List.getElem?_eq_none (by omega)] at hj; cases hj
    obtain ⟨x, h3, h4⟩ := h2 j hlt
    rw [h4] at hj
    injection hj with hj
    subst hj
    exact h3
  · cases h
theorem rd_of_trod {K : Type} {enc : TypeId × Value → K} {P : Program} {w : World} {sp : Nat → Bool} : ∀ {f : Nat} {t : TypeId} {cs : List Value} {r : DataW K × List MemPlace}, DataW.trod enc P w 0 sp true f t cs = some r → Rd P w.heap f t cs := by
  intro f
  induction f with
  | zero => intro t cs r h; cases h
  | succ f ih =>
    intro t cs r h
    unfold DataW.trod at h
    unfold Rd
    split at h
    all_goals (first | (rename_i hu _; simp only [hu]) | (rename_i hu; simp only [hu]) | skip)
    all_goals try trivial
    · exact ⟨_, rfl⟩
    · rename_i k k' n
      split at h
      · rename_i hc
        obtain ⟨rfl, hw⟩ := hc
        simp [Lit.wf] at hw
        exact ⟨n, rfl, hw.1, hw.2⟩
      · cases h
    · split at h
      · rename_i hs; exact ⟨_, rfl, hs⟩
      · cases h
    · exact .inl trivial
    · rename_i e a
      cases hc : w.cells? 0 a (P.cellsOf e) with
      | none => simp [hc] at h
      | some es =>
        simp [hc] at h
        obtain ⟨x, y, h1, _⟩ := h
        exact .inr ⟨a, rfl, es, cells?_on hc, ih h1⟩
    · exact .inl trivial
    · rename_i e a len cap
      simp only at h
      split at h
      · rename_i hb
        cases hm : (List.range len).mapM (fun i => (w.cells? 0 (a.add (i * P.cellsOf e)) (P.cellsOf e)).bind (DataW.trod enc P w 0 sp true f e)) with
        | none => simp [hm] at h
        | some els =>
          obtain ⟨_, h2⟩ := mapM_range hm
          refine .inr ⟨a, len, cap, rfl, hb.2.1, hb.2.2, fun i hi => ?_⟩
          obtain ⟨x, h3, _⟩ := h2 i hi
          cases hc : w.cells? 0 (a.add (i * P.cellsOf e)) (P.cellsOf e) with
          | none => simp [hc] at h3
          | some es => simp [hc] at h3; exact ⟨es, cells?_on hc, ih h3⟩
      · cases h
    · rename_i cs _ _ fs
      split at h
      · rename_i hl
        refine ⟨hl, fun x hx => ?_⟩
        cases hm : fs.toList.mapM (fun f' => DataW.trod enc P w 0 sp true f f'.type ((cs.drop f'.offset).take (P.cellsOf f'.type))) with
        | none => simp [hm] at h
        | some els =>
          obtain ⟨y, hy⟩ := mapM_mem hm x hx
          exact ih hy
      · cases h
end Go.Den
