/- What functions of this seat do, each proved by a walk; no condition. -/
import Derived.Test.YtpjnmdeeoafclaaKW
set_option linter.unusedVariables false
set_option linter.unnecessarySimpa false
set_option linter.unusedSimpArgs false
namespace Go.Proofs.Ytpjnmdeeoafclaa
open Go Go.Den Go.Proofs
/-! A key's changes, and its lives. -/
structure Vs where
  rev : Rv
  cr : Rv
  ver : Int
  gone : Bool
/-- The changes that a life says. -/
def lifeV (g : Gn) (e : Bool) : List Vs := g.2.2.zipIdx.map fun x => ⟨x.1, g.2.1, g.1 - (g.2.2.length - x.2 - 1), e && decide (x.2 + 1 = g.2.2.length)⟩
def versG : List Gn → List Vs
  | [] => []
  | [g] => lifeV g false
  | g :: h :: r => lifeV g true ++ versG (h :: r)
theorem lifeV_get {g : Gn} {e : Bool} {i : Nat} : (lifeV g e)[i]? = g.2.2[i]?.map fun r => ⟨r, g.2.1, g.1 - (g.2.2.length - i - 1), e && decide (i + 1 = g.2.2.length)⟩ := by
  unfold lifeV
  rw [List.getElem?_map, List.getElem?_zipIdx]
  cases g.2.2[i]? <;> simp
theorem lifeV_len {g : Gn} {e : Bool} : (lifeV g e).length = g.2.2.length := by unfold lifeV; simp
theorem lifeV_revs {g : Gn} {e : Bool} : (lifeV g e).map (·.rev) = g.2.2 := by
  refine List.ext_getElem? fun i => ?_
  rw [List.getElem?_map, lifeV_get]
  cases g.2.2[i]? <;> rfl
/-- The last one of some changes at or below a number, by its place. -/
def lastI (t : Int) (l : List Vs) : Option Nat := wkO t (l.map (·.rev)) l.length
theorem wkO_app {t : Int} {a b : List Rv} : ∀ {k : Nat}, k ≤ a.length → wkO t (a ++ b) k = wkO t a k := by
  intro k
  induction k with
  | zero => intro _; rfl
  | succ k ih =>
    intro hk
    have h1 : a[k]? = some a[k] := List.getElem?_eq_getElem (by omega)
    rw [wkO_succ h1, wkO_succ (by rw [List.getElem?_append_left (by omega)]; exact h1), ih (by omega)]
theorem wkO_app2 {t : Int} {a b : List Rv} : ∀ {k : Nat}, k ≤ b.length → wkO t (a ++ b) (a.length + k) = (match wkO t b k with | some j => some (a.length + j) | none => wkO t a a.length) := by
  intro k
  induction k with
  | zero => intro _; exact wkO_app (Nat.le_refl _)
  | succ k ih =>
    intro hk
    have h1 : b[k]? = some b[k] := List.getElem?_eq_getElem (by omega)
    have h2 : (a ++ b)[a.length + k]? = some b[k] := by rw [List.getElem?_append_right (by omega)]; simpa using h1
    rw [← Nat.add_assoc, wkO_succ h2, wkO_succ h1, ih (by omega)]
    split <;> rfl
theorem lastI_app {t : Int} {a b : List Vs} : lastI t (a ++ b) = (match lastI t b with | some j => some (a.length + j) | none => lastI t a) := by
  unfold lastI
  rw [List.map_append, List.length_append]
  have := wkO_app2 (t := t) (a := a.map (·.rev)) (b := b.map (·.rev)) (k := b.length) (by simp)
  rw [List.length_map] at this
  exact this
theorem wkO_none {t : Int} {rs : List Rv} : ∀ {k : Nat}, k ≤ rs.length → (wkO t rs k = none ↔ ∀ i x, i < k → rs[i]? = some x → t < x.1) := by
  intro k
  induction k with
  | zero => intro _; exact ⟨fun _ i x h => by omega, fun _ => rfl⟩
  | succ k ih =>
    intro hk
    have h1 : rs[k]? = some rs[k] := List.getElem?_eq_getElem (by omega)
    rw [wkO_succ h1]
    by_cases h : rs[k].1 ≤ t
    · rw [if_pos h]
      refine ⟨fun h => (by cases h), fun h2 => ?_⟩
      have := h2 k _ (by omega) h1
      omega
    · rw [if_neg h, ih (by omega)]
      refine ⟨fun h2 i x hi hx => ?_, fun h2 i x hi hx => h2 i x (by omega) hx⟩
      by_cases hik : i = k
      · subst hik; rw [h1] at hx; cases hx; omega
      · exact h2 i x (by omega) hx
theorem lastI_none {t : Int} {l : List Vs} : lastI t l = none ↔ ∀ v ∈ l, t < v.rev.1 := by
  unfold lastI
  rw [wkO_none (by simp)]
  constructor
  · intro h v hv
    obtain ⟨i, hi⟩ := List.getElem?_of_mem hv
    exact h i v.rev (List.getElem?_eq_some_iff.1 hi).1 (by rw [List.getElem?_map, hi]; rfl)
  · intro h i x hi hx
    rw [List.getElem?_map] at hx
    cases hv : l[i]? with
    | none => rw [hv] at hx; cases hx
    | some v => rw [hv] at hx; cases hx; exact h v (List.mem_of_getElem? hv)
theorem wkO_some {t : Int} {rs : List Rv} : ∀ {k j : Nat}, wkO t rs k = some j → ∃ x, rs[j]? = some x ∧ x.1 ≤ t := by
  intro k
  induction k with
  | zero => intro j h; cases h
  | succ k ih =>
    intro j h
    unfold wkO at h
    cases hx : rs[k]? with
    | none => rw [hx] at h; cases h
    | some x =>
      rw [hx] at h
      dsimp only at h
      split at h
      · cases h; rename_i h2; exact ⟨x, hx, h2⟩
      · exact ih h
theorem lastI_some {t : Int} {l : List Vs} {j : Nat} (h : lastI t l = some j) : ∃ v, l[j]? = some v ∧ v.rev.1 ≤ t := by
  obtain ⟨x, h1, h2⟩ := wkO_some h
  rw [List.getElem?_map] at h1
  cases hv : l[j]? with
  | none => rw [hv] at h1; cases h1
  | some v => rw [hv] at h1; cases h1; exact ⟨v, rfl, h2⟩
/-! Compacting -/
def stayV (t : Int) (v : Vs) : Bool := !v.gone || decide (v.rev.1 = t)
def compS (t : Int) (l : List Vs) : List Vs := match lastI t l with
  | none => l
  | some j => (l[j]?.toList.filter (stayV t)) ++ l.drop (j + 1)
def keptS (t : Int) (e : Bool) (l : List Vs) : List Rv := match lastI t l with
  | none => []
  | some j => ((l[j]?.toList.filter fun v => stayV t v && (e || !v.gone)).map (·.rev))
def cut (t : Int) (g : Gn) : Gn := match wkO t g.2.2 g.2.2.length with
  | none => g
  | some j => (g.1, g.2.1, g.2.2.drop j)
def cpR (t : Int) : List Gn → List Gn
  | [] => []
  | [g] => [cut t g]
  | g :: h :: r => if lastM g.2.2 ≥ t then cut t g :: h :: r else cpR t (h :: r)
/-- What holds of lives: those that are over have changes; each has rising ones; a later one begins above an earlier one's end. -/
def Lives : List Gn → Prop
  | [] => True
  | [g] => g.2.2.Pairwise (fun a b => a.1 ≤ b.1)
  | g :: h :: r => g.2.2 ≠ [] ∧ g.2.2.Pairwise (fun a b => a.1 ≤ b.1) ∧ (∀ x ∈ g.2.2, ∀ k ∈ h :: r, ∀ y ∈ k.2.2, x.1 < y.1) ∧ Lives (h :: r)
theorem dcN_shift {t : Int} {g : Gn} {G : List Gn} : ∀ {m k : Nat}, dcN t (g :: G) (k + 1) m = dcN t G k m + 1 := by
  intro m
  induction m with
  | zero => intro k; rfl
  | succ m ih =>
    intro k
    show (if lastM (nthG (g :: G) (k + 1)).2.2 ≥ t then k + 1 else dcN t (g :: G) (k + 1 + 1) m) = (if lastM (nthG G k).2.2 ≥ t then k else dcN t G (k + 1) m) + 1
    have e : nthG (g :: G) (k + 1) = nthG G k := rfl
    rw [e, ih]
    split <;> rfl
theorem cpI_cons {t : Int} {g h : Gn} {r : List Gn} : cpI t (g :: h :: r) = if lastM g.2.2 ≥ t then 0 else cpI t (h :: r) + 1 := by
  unfold cpI
  show (if lastM (nthG (g :: h :: r) 0).2.2 ≥ t then 0 else dcN t (g :: h :: r) (0 + 1) r.length) = _
  rw [dcN_shift]
  rfl
theorem compactG_eq {t : Int} : ∀ {G : List Gn}, G ≠ [] → compactG t G = cpR t G := by
  intro G
  induction G with
  | nil => intro h; exact absurd rfl h
  | cons g G ih =>
    intro _
    have base : cpI t (g :: G) = 0 → compactG t (g :: G) = cut t g :: G := by
      intro h
      unfold compactG cpJ
      rw [h]
      show (match wkO t g.2.2 g.2.2.length with | none => (g :: G).drop 0 | some j => (g.1, g.2.1, g.2.2.drop j) :: (g :: G).drop (0 + 1)) = _
      unfold cut
      cases wkO t g.2.2 g.2.2.length <;> rfl
    cases G with
    | nil => exact base rfl
    | cons h r =>
      have e := cpI_cons (t := t) (g := g) (h := h) (r := r)
      by_cases hl : lastM g.2.2 ≥ t
      · rw [if_pos hl] at e
        rw [base e]
        show _ = if lastM g.2.2 ≥ t then cut t g :: h :: r else cpR t (h :: r)
        rw [if_pos hl]
      · rw [if_neg hl] at e
        show _ = if lastM g.2.2 ≥ t then cut t g :: h :: r else cpR t (h :: r)
        rw [if_neg hl, ← ih (by simp)]
        unfold compactG cpJ
        rw [e]
        rfl
theorem lifeV_drop {g : Gn} {e : Bool} {j : Nat} : (lifeV g e).drop j = lifeV (g.1, g.2.1, g.2.2.drop j) e := by
  refine List.ext_getElem? fun i => ?_
  rw [List.getElem?_drop, lifeV_get, lifeV_get]
  simp only [List.getElem?_drop, List.length_drop]
  cases hx : g.2.2[j + i]? with
  | none => rfl
  | some x =>
    have := (List.getElem?_eq_some_iff.1 hx).1
    simp only [Option.map_some]
    congr 2
    · omega
    · congr 1; rw [decide_eq_decide]; omega
theorem toList_drop {α : Type} {l : List α} {j : Nat} {v : α} (h : l[j]? = some v) : l.drop j = v :: l.drop (j + 1) := by
  obtain ⟨h1, h2⟩ := List.getElem?_eq_some_iff.1 h
  rw [List.drop_eq_getElem_cons h1, h2]
theorem versG_revs : ∀ {G : List Gn} {v : Vs}, v ∈ versG G → ∃ k ∈ G, v.rev ∈ k.2.2 := by
  intro G
  have hlife : ∀ {g : Gn} {e : Bool} {v : Vs}, v ∈ lifeV g e → v.rev ∈ g.2.2 := by
    intro g e v hv
    have : v.rev ∈ (lifeV g e).map (·.rev) := List.mem_map_of_mem hv
    rwa [lifeV_revs] at this
  induction G with
  | nil => intro v h; cases h
  | cons g G ih =>
    intro v h
    cases G with
    | nil => exact ⟨g, List.mem_cons_self .., hlife h⟩
    | cons h' r =>
      rcases List.mem_append.1 h with h | h
      · exact ⟨g, List.mem_cons_self .., hlife h⟩
      · obtain ⟨k, hk, hv⟩ := ih h
        exact ⟨k, List.mem_cons_of_mem _ hk, hv⟩
theorem lastI_life {t : Int} {g : Gn} {e : Bool} : lastI t (lifeV g e) = wkO t g.2.2 g.2.2.length := by unfold lastI; rw [lifeV_revs, lifeV_len]
theorem lastM_get {rs : List Rv} (h : rs ≠ []) : ∃ x, rs[rs.length - 1]? = some x ∧ lastM rs = x.1 := by
  have h0 : 0 < rs.length := List.length_pos_iff.2 h
  refine ⟨rs.getLast h, ?_, ?_⟩
  · rw [← List.getLast?_eq_getElem?, List.getLast?_eq_some_getLast h]
  · unfold lastM; rw [List.getLastD_eq_getLast?, List.getLast?_eq_some_getLast h]; rfl
theorem wkO_last {t : Int} {rs : List Rv} (h : rs ≠ []) (hl : lastM rs ≤ t) : wkO t rs rs.length = some (rs.length - 1) := by
  obtain ⟨x, hx, he⟩ := lastM_get h
  have h0 : 0 < rs.length := List.length_pos_iff.2 h
  have := wkO_succ (t := t) hx
  rw [show rs.length - 1 + 1 = rs.length by omega, if_pos (by omega)] at this
  exact this
theorem life_at {t : Int} {g : Gn} {e : Bool} {j : Nat} (h : wkO t g.2.2 g.2.2.length = some j) : ∃ x, g.2.2[j]? = some x ∧ x.1 ≤ t ∧ j < g.2.2.length ∧ (lifeV g e)[j]? = some ⟨x, g.2.1, g.1 - (g.2.2.length - j - 1), e && decide (j + 1 = g.2.2.length)⟩ := by
  obtain ⟨x, hx, hle⟩ := wkO_some h
  exact ⟨x, hx, hle, (wkO_lt h).2, by rw [lifeV_get, hx]; rfl⟩
theorem comp_life {t : Int} {g : Gn} {e : Bool} {B : List Vs} (hB : ∀ v ∈ B, t < v.rev.1) (he : e = true → g.2.2 ≠ [] ∧ lastM g.2.2 ≥ t) : compS t (lifeV g e ++ B) = lifeV (cut t g) e ++ B := by
  unfold compS cut
  rw [lastI_app, lastI_none.2 hB]
  dsimp only
  rw [lastI_life]
  cases hw : wkO t g.2.2 g.2.2.length with
  | none => rfl
  | some j =>
    obtain ⟨x, hx, hle, hj, hv⟩ := life_at (e := e) hw
    dsimp only
    have hv2 : (lifeV g e ++ B)[j]? = some ⟨x, g.2.1, g.1 - (g.2.2.length - j - 1), e && decide (j + 1 = g.2.2.length)⟩ := by
      rw [List.getElem?_append_left (by rw [lifeV_len]; exact hj)]; exact hv
    rw [hv2]
    have hs : stayV t ⟨x, g.2.1, g.1 - (g.2.2.length - j - 1), e && decide (j + 1 = g.2.2.length)⟩ = true := by
      unfold stayV
      cases e with
      | false => rfl
      | true =>
        obtain ⟨h1, h2⟩ := he rfl
        by_cases hlast : j + 1 = g.2.2.length
        · obtain ⟨y, hy, hy2⟩ := lastM_get h1
          rw [show g.2.2.length - 1 = j by omega, hx] at hy
          cases hy
          have : x.1 = t := by omega
          simp [this]
        · simp [hlast]
    simp only [Option.toList_some, List.filter_cons, hs, if_true, List.filter_nil]
    show [_] ++ _ = _
    rw [List.singleton_append, ← toList_drop hv2, List.drop_append_of_le_length (by rw [lifeV_len]; omega), lifeV_drop]
theorem comp_law {t : Int} : ∀ {G : List Gn}, Lives G → G ≠ [] → compS t (versG G) = versG (cpR t G) := by
  intro G
  induction G with
  | nil => intro _ h; exact absurd rfl h
  | cons g G ih =>
    intro hL _
    cases G with
    | nil =>
      have := comp_life (t := t) (g := g) (e := false) (B := []) (by simp) (by simp)
      rw [List.append_nil, List.append_nil] at this
      exact this
    | cons h r =>
      obtain ⟨h1, h2, h3, h4⟩ := hL
      show compS t (lifeV g true ++ versG (h :: r)) = versG (if lastM g.2.2 ≥ t then cut t g :: h :: r else cpR t (h :: r))
      by_cases hl : lastM g.2.2 ≥ t
      · rw [if_pos hl]
        refine comp_life (fun v hv => ?_) (fun _ => ⟨h1, hl⟩)
        obtain ⟨k, hk, hv2⟩ := versG_revs hv
        obtain ⟨x, hx, hx2⟩ := lastM_get h1
        have := h3 x (List.mem_of_getElem? hx) k hk _ hv2
        omega
      · rw [if_neg hl, ← ih h4 (by simp)]
        unfold compS
        rw [lastI_app]
        cases hb : lastI t (versG (h :: r)) with
        | some j =>
          dsimp only
          rw [List.getElem?_append_right (by omega), Nat.add_sub_cancel_left, show (lifeV g true).length + j + 1 = (lifeV g true).length + (j + 1) by omega, List.drop_length_add_append]
        | none =>
          dsimp only
          rw [lastI_life, wkO_last h1 (by omega)]
          dsimp only
          obtain ⟨x, hx, hx2⟩ := lastM_get h1
          have hlen : 0 < g.2.2.length := List.length_pos_iff.2 h1
          have hv : (lifeV g true)[g.2.2.length - 1]? = some ⟨x, g.2.1, g.1 - (g.2.2.length - ((g.2.2.length - 1 : Nat) : Int) - 1), true && decide (g.2.2.length - 1 + 1 = g.2.2.length)⟩ := by rw [lifeV_get, hx]; rfl
          rw [List.getElem?_append_left (by rw [lifeV_len]; omega), hv]
          have hs : stayV t ⟨x, g.2.1, g.1 - (g.2.2.length - ((g.2.2.length - 1 : Nat) : Int) - 1), true && decide (g.2.2.length - 1 + 1 = g.2.2.length)⟩ = false := by
            unfold stayV
            have h5 : ¬ x.1 = t := by omega
            have h6 : g.2.2.length - 1 + 1 = g.2.2.length := by omega
            simp [h5, h6]
          simp only [Option.toList_some, List.filter_cons, hs, List.filter_nil, Bool.false_eq_true, if_false, List.nil_append]
          rw [show g.2.2.length - 1 + 1 = (lifeV g true).length by rw [lifeV_len]; omega, List.drop_left]
/-! What compacting tells -/
def kpR (t : Int) (e : Bool) : List Gn → List Rv
  | [] => []
  | [g] => (match wkO t g.2.2 g.2.2.length with | none => [] | some j => g.2.2[j]?.toList)
  | g :: h :: r => if lastM g.2.2 ≥ t then (match wkO t g.2.2 g.2.2.length with | none => [] | some j => if e || !decide (j + 1 = g.2.2.length) then g.2.2[j]?.toList else []) else kpR t e (h :: r)
theorem kept_life {t : Int} {g : Gn} {e b : Bool} {B : List Vs} (hB : ∀ v ∈ B, t < v.rev.1) (he : e = true → g.2.2 ≠ [] ∧ lastM g.2.2 ≥ t) :
    keptS t b (lifeV g e ++ B) = (match wkO t g.2.2 g.2.2.length with | none => [] | some j => if b || !(e && decide (j + 1 = g.2.2.length)) then g.2.2[j]?.toList else []) := by
  unfold keptS
  rw [lastI_app, lastI_none.2 hB]
  dsimp only
  rw [lastI_life]
  cases hw : wkO t g.2.2 g.2.2.length with
  | none => rfl
  | some j =>
    obtain ⟨x, hx, hle, hj, hv⟩ := life_at (e := e) hw
    dsimp only
    have hv2 : (lifeV g e ++ B)[j]? = some ⟨x, g.2.1, g.1 - (g.2.2.length - j - 1), e && decide (j + 1 = g.2.2.length)⟩ := by
      rw [List.getElem?_append_left (by rw [lifeV_len]; exact hj)]; exact hv
    rw [hv2, hx]
    have hs : stayV t ⟨x, g.2.1, g.1 - (g.2.2.length - j - 1), e && decide (j + 1 = g.2.2.length)⟩ = true := by
      unfold stayV
      cases e with
      | false => rfl
      | true =>
        obtain ⟨h1, h2⟩ := he rfl
        by_cases hlast : j + 1 = g.2.2.length
        · obtain ⟨y, hy, hy2⟩ := lastM_get h1
          rw [show g.2.2.length - 1 = j by omega, hx] at hy
          cases hy
          have : x.1 = t := by omega
          simp [this]
        · simp [hlast]
    simp only [Option.toList_some, List.filter_cons, hs, List.filter_nil, Bool.true_and]
    split <;> rfl
theorem kept_law {t : Int} {b : Bool} : ∀ {G : List Gn}, Lives G → G ≠ [] → keptS t b (versG G) = kpR t b G := by
  intro G
  induction G with
  | nil => intro _ h; exact absurd rfl h
  | cons g G ih =>
    intro hL _
    cases G with
    | nil =>
      have := kept_life (t := t) (g := g) (e := false) (b := b) (B := []) (by simp) (by simp)
      rw [List.append_nil] at this
      simp only [Bool.false_and, Bool.not_false, Bool.or_true, if_true] at this
      exact this
    | cons h r =>
      obtain ⟨h1, h2, h3, h4⟩ := hL
      show keptS t b (lifeV g true ++ versG (h :: r)) = if lastM g.2.2 ≥ t then _ else kpR t b (h :: r)
      by_cases hl : lastM g.2.2 ≥ t
      · rw [if_pos hl]
        have := kept_life (t := t) (g := g) (e := true) (b := b) (B := versG (h :: r)) (fun v hv => by
          obtain ⟨k, hk, hv2⟩ := versG_revs hv
          obtain ⟨x, hx, hx2⟩ := lastM_get h1
          have := h3 x (List.mem_of_getElem? hx) k hk _ hv2
          omega) (fun _ => ⟨h1, hl⟩)
        simp only [Bool.true_and] at this
        exact this
      · rw [if_neg hl, ← ih h4 (by simp)]
        unfold keptS
        rw [lastI_app]
        cases hb : lastI t (versG (h :: r)) with
        | some j =>
          dsimp only
          rw [List.getElem?_append_right (by omega), Nat.add_sub_cancel_left]
        | none =>
          dsimp only
          rw [lastI_life, wkO_last h1 (by omega)]
          dsimp only
          obtain ⟨x, hx, hx2⟩ := lastM_get h1
          have hlen : 0 < g.2.2.length := List.length_pos_iff.2 h1
          have hv : (lifeV g true)[g.2.2.length - 1]? = some ⟨x, g.2.1, g.1 - (g.2.2.length - ((g.2.2.length - 1 : Nat) : Int) - 1), true && decide (g.2.2.length - 1 + 1 = g.2.2.length)⟩ := by rw [lifeV_get, hx]; rfl
          rw [List.getElem?_append_left (by rw [lifeV_len]; omega), hv]
          have hs : stayV t ⟨x, g.2.1, g.1 - (g.2.2.length - ((g.2.2.length - 1 : Nat) : Int) - 1), true && decide (g.2.2.length - 1 + 1 = g.2.2.length)⟩ = false := by
            unfold stayV
            have h5 : ¬ x.1 = t := by omega
            have h6 : g.2.2.length - 1 + 1 = g.2.2.length := by omega
            simp [h5, h6]
          simp only [Option.toList_some, List.filter_cons, hs, List.filter_nil, Bool.false_and, Bool.false_eq_true, if_false, List.map_nil]
theorem kpR_base {t : Int} {g : Gn} {G : List Gn} (h : cpI t (g :: G) = 0) : cpJ t (g :: G) = wkO t g.2.2 g.2.2.length ∧ nthG (g :: G) (cpI t (g :: G)) = g := by
  unfold cpJ
  rw [h]
  exact ⟨rfl, rfl⟩
theorem getD_toList {rs : List Rv} {j : Nat} (h : j < rs.length) : [rs.getD j (0, 0)] = rs[j]?.toList := by
  rw [List.getD_eq_getElem?_getD, List.getElem?_eq_getElem h]; rfl
theorem cpM_eq {t : Int} : ∀ {G : List Gn}, G ≠ [] → (cpM t G []).map (·.1) = kpR t true G := by
  intro G
  induction G with
  | nil => intro h; exact absurd rfl h
  | cons g G ih =>
    intro _
    have base : cpI t (g :: G) = 0 → (cpM t (g :: G) []).map (·.1) = (match wkO t g.2.2 g.2.2.length with | none => [] | some j => g.2.2[j]?.toList) := by
      intro h
      obtain ⟨h1, h2⟩ := kpR_base h
      unfold cpM
      rw [h1, h2]
      cases hw : wkO t g.2.2 g.2.2.length with
      | none => rfl
      | some j => exact getD_toList (wkO_lt hw).2
    cases G with
    | nil => exact base rfl
    | cons h r =>
      have e := cpI_cons (t := t) (g := g) (h := h) (r := r)
      by_cases hl : lastM g.2.2 ≥ t
      · rw [if_pos hl] at e
        rw [base e]
        show _ = if lastM g.2.2 ≥ t then _ else _
        rw [if_pos hl]
        cases wkO t g.2.2 g.2.2.length <;> rfl
      · rw [if_neg hl] at e
        show _ = if lastM g.2.2 ≥ t then _ else kpR t true (h :: r)
        rw [if_neg hl, ← ih (by simp)]
        unfold cpM cpJ
        rw [e]
        rfl
theorem keepM_eq {t : Int} : ∀ {G : List Gn}, G ≠ [] → (keepM t G []).map (·.1) = kpR t false G := by
  intro G
  induction G with
  | nil => intro h; exact absurd rfl h
  | cons g G ih =>
    intro _
    have base : cpI t (g :: G) = 0 → (keepM t (g :: G) []).map (·.1) = (match wkO t g.2.2 g.2.2.length with | none => [] | some j => if (false || !decide (j + 1 = g.2.2.length ∧ 1 ≠ (g :: G).length)) = true then g.2.2[j]?.toList else []) := by
      intro h
      obtain ⟨h1, h2⟩ := kpR_base h
      unfold keepM cpM
      rw [h1, h2, h]
      cases hw : wkO t g.2.2 g.2.2.length with
      | none => rfl
      | some j =>
        dsimp only [wkM]
        have hj := (wkO_lt hw).2
        by_cases hc : j + 1 = g.2.2.length ∧ 1 ≠ (g :: G).length
        · have hc2 : j + 1 = g.2.2.length ∧ 0 + 1 ≠ (g :: G).length := hc
          rw [if_pos hc2]
          simp only [mset, mdel, if_true, List.map_nil]
          rw [decide_eq_true hc]
          rfl
        · have hc2 : ¬ (j + 1 = g.2.2.length ∧ 0 + 1 ≠ (g :: G).length) := hc
          rw [if_neg hc2]
          simp only [mset, List.map_cons, List.map_nil]
          rw [decide_eq_false hc]
          exact getD_toList hj
    cases G with
    | nil =>
      rw [base rfl]
      show _ = (match wkO t g.2.2 g.2.2.length with | none => [] | some j => g.2.2[j]?.toList)
      cases wkO t g.2.2 g.2.2.length <;> simp
    | cons h r =>
      have e := cpI_cons (t := t) (g := g) (h := h) (r := r)
      by_cases hl : lastM g.2.2 ≥ t
      · rw [if_pos hl] at e
        rw [base e]
        show _ = if lastM g.2.2 ≥ t then _ else _
        rw [if_pos hl]
        cases wkO t g.2.2 g.2.2.length <;> simp
      · rw [if_neg hl] at e
        show _ = if lastM g.2.2 ≥ t then _ else kpR t false (h :: r)
        rw [if_neg hl, ← ih (by simp)]
        unfold keepM cpM cpJ
        rw [e]
        simp only [List.length_cons, Nat.add_right_cancel_iff, ne_eq]
        rfl
/-! Asking for a number -/
def lastV (t : Int) (l : List Vs) : Option Vs := (lastI t l).bind fun j => l[j]?
theorem lastV_app {t : Int} {a b : List Vs} : lastV t (a ++ b) = match lastV t b with | some v => some v | none => lastV t a := by
  unfold lastV
  rw [lastI_app]
  cases hb : lastI t b with
  | none =>
    dsimp only [Option.bind_none]
    cases ha : lastI t a with
    | none => rfl
    | some j =>
      obtain ⟨v, hv, _⟩ := lastI_some ha
      simp only [Option.bind_some]
      rw [List.getElem?_append_left (List.getElem?_eq_some_iff.1 hv).1]
  | some j =>
    obtain ⟨v, hv, _⟩ := lastI_some hb
    simp only [Option.bind_some, hv]
    rw [List.getElem?_append_right (by omega), Nat.add_sub_cancel_left, hv]
theorem lastV_life {t : Int} {g : Gn} {e : Bool} : lastV t (lifeV g e) = (wkO t g.2.2 g.2.2.length).bind fun j => (lifeV g e)[j]? := by unfold lastV; rw [lastI_life]
def versK (G : List Gn) (k : Nat) : List Vs := (List.range k).flatMap fun i => lifeV (nthG G i) (decide (i + 1 ≠ G.length))
theorem versK_succ {G : List Gn} {k : Nat} : versK G (k + 1) = versK G k ++ lifeV (nthG G k) (decide (k + 1 ≠ G.length)) := by
  unfold versK; rw [List.range_succ, List.flatMap_append]; simp
theorem versK_full : ∀ {G : List Gn}, versK G G.length = versG G := by
  intro G
  induction G with
  | nil => rfl
  | cons g G ih =>
    have e1 : versK (g :: G) (g :: G).length = lifeV g (decide (1 ≠ (g :: G).length)) ++ versK G G.length := by
      unfold versK
      rw [List.length_cons, List.range_succ_eq_map, List.flatMap_cons, List.flatMap_map]
      congr 1
      congr 1
      funext i
      have : nthG (g :: G) (i + 1) = nthG G i := rfl
      show lifeV (nthG (g :: G) (i + 1)) _ = _
      rw [this]
      congr 1
      rw [decide_eq_decide]
      omega
    rw [e1, ih]
    cases G with
    | nil => simp [versG]
    | cons h r =>
      show lifeV g (decide (1 ≠ (r.length + 1) + 1)) ++ _ = lifeV g true ++ _
      rw [decide_eq_true (by omega)]
theorem pair_first {rs : List Rv} (h : rs.Pairwise fun a b => a.1 ≤ b.1) : ∀ x ∈ rs, firstM rs ≤ x.1 := by
  cases rs with
  | nil => intro x hx; cases hx
  | cons a r =>
    intro x hx
    rcases List.mem_cons.1 hx with rfl | hx
    · exact Int.le_refl _
    · exact (List.pairwise_cons.1 h).1 x hx
theorem getG_law0 {t : Int} {G : List Gn} (hp : ∀ g ∈ G, g.2.2.Pairwise fun a b => a.1 ≤ b.1) : ∀ k, k ≤ G.length → match fg t G k with
    | none => ∀ v, lastV t (versK G k) = some v → v.gone = true
    | some i => ∃ j x, wkO t (nthG G i).2.2 (nthG G i).2.2.length = some j ∧ (nthG G i).2.2[j]? = some x ∧ lastV t (versK G k) = some ⟨x, (nthG G i).2.1, (nthG G i).1 - ((nthG G i).2.2.length - j - 1), false⟩ := by
  intro k
  induction k with
  | zero => intro _ v h; cases h
  | succ k ih =>
    intro hk
    have ih := ih (by omega)
    have hg : G[k]? = some (nthG G k) := by unfold nthG; rw [List.getD_eq_getElem?_getD, List.getElem?_eq_getElem (by omega)]; rfl
    have hpk := hp _ (List.mem_of_getElem? hg)
    generalize hgk : nthG G k = g at hg hpk
    have ef : fg t G (k + 1) = if g.2.2 = [] then fg t G k else if k + 1 ≠ G.length ∧ lastM g.2.2 ≤ t then none else if firstM g.2.2 ≤ t then some k else fg t G k := by
      show (match G[k]? with | none => _ | some x => _) = _
      rw [hg]
    rw [ef, versK_succ, hgk, lastV_app]
    by_cases h0 : g.2.2 = []
    · rw [if_pos h0]
      have : lastV t (lifeV g (decide (k + 1 ≠ G.length))) = none := by rw [lastV_life, h0]; rfl
      rw [this]
      exact ih
    · rw [if_neg h0]
      obtain ⟨y, hy, hy2⟩ := lastM_get h0
      have hlen : 0 < g.2.2.length := List.length_pos_iff.2 h0
      by_cases h1 : k + 1 ≠ G.length ∧ lastM g.2.2 ≤ t
      · rw [if_pos h1]
        have hv : lastV t (lifeV g (decide (k + 1 ≠ G.length))) = some ⟨y, g.2.1, g.1 - (g.2.2.length - ((g.2.2.length - 1 : Nat) : Int) - 1), decide (k + 1 ≠ G.length) && decide (g.2.2.length - 1 + 1 = g.2.2.length)⟩ := by
          rw [lastV_life, wkO_last h0 h1.2]
          simp only [Option.bind_some]
          rw [lifeV_get, hy]; rfl
        rw [hv]
        dsimp only
        intro v hv2
        cases hv2
        dsimp only
        rw [decide_eq_true h1.1, decide_eq_true (by omega)]
        rfl
      · rw [if_neg h1]
        by_cases h2 : firstM g.2.2 ≤ t
        · rw [if_pos h2]
          cases hw : wkO t g.2.2 g.2.2.length with
          | none =>
            exfalso
            have := (wkO_none (Nat.le_refl _)).1 hw 0 (g.2.2.headD (0, 0)) hlen (by cases hh : g.2.2 with | nil => exact absurd hh h0 | cons a r => rfl)
            have h3 : firstM g.2.2 = (g.2.2.headD (0, 0)).1 := rfl
            omega
          | some j =>
            obtain ⟨x, hx, hle, hj, hv⟩ := life_at (e := decide (k + 1 ≠ G.length)) hw
            have hng : (decide (k + 1 ≠ G.length) && decide (j + 1 = g.2.2.length)) = false := by
              by_cases h4 : k + 1 ≠ G.length
              · by_cases h5 : j + 1 = g.2.2.length
                · exfalso
                  rw [show g.2.2.length - 1 = j by omega, hx] at hy
                  cases hy
                  exact h1 ⟨h4, by omega⟩
                · rw [decide_eq_false h5, Bool.and_false]
              · rw [decide_eq_false h4, Bool.false_and]
            have hlv : lastV t (lifeV g (decide (k + 1 ≠ G.length))) = some ⟨x, g.2.1, g.1 - (g.2.2.length - j - 1), false⟩ := by
              rw [lastV_life, hw]
              simp only [Option.bind_some]
              rw [hv, hng]
            rw [hlv]
            dsimp only
            rw [hgk]
            exact ⟨j, x, hw, hx, rfl⟩
        · rw [if_neg h2]
          have : lastV t (lifeV g (decide (k + 1 ≠ G.length))) = none := by
            have hw : wkO t g.2.2 g.2.2.length = none := (wkO_none (Nat.le_refl _)).2 fun i x hi hx => by
              have := pair_first hpk x (List.mem_of_getElem? hx)
              omega
            rw [lastV_life, hw]; rfl
          rw [this]
          exact ih
/-- The change that holds at a number. -/
def holdsS (t : Int) (l : List Vs) : Option Vs := match lastV t l with | none => none | some v => if v.gone then none else some v
theorem get_law {t : Int} {G : List Gn} (hp : ∀ g ∈ G, g.2.2.Pairwise fun a b => a.1 ≤ b.1) : getG t G = (holdsS t (versG G)).map fun v => (v.rev, v.cr, v.ver) := by
  have h := getG_law0 (t := t) hp G.length (Nat.le_refl _)
  rw [versK_full] at h
  unfold getG holdsS
  cases hf : fg t G G.length with
  | none =>
    rw [hf] at h
    dsimp only at h ⊢
    cases hl : lastV t (versG G) with
    | none => rfl
    | some v => simp [h v hl]
  | some i =>
    rw [hf] at h
    obtain ⟨j, x, h1, h2, h3⟩ := h
    dsimp only
    rw [h1, h3]
    dsimp only
    rw [List.getD_eq_getElem?_getD, h2]
    rfl
/-! All since a number -/
def sinceS (t : Int) : List Rv → List Rv
  | [] => []
  | [x] => if x.1 ≥ t then [x] else []
  | x :: y :: r => if x.1 ≥ t ∧ y.1 ≠ x.1 then x :: sinceS t (y :: r) else sinceS t (y :: r)
theorem gt0 {t : Int} {x : Rv} (h : 0 ≤ x.2) : gtB (t, 0) x = decide (x.1 < t) := by
  unfold gtB
  rw [Bool.eq_iff_iff]
  simp
  omega
theorem since_go {t : Int} : ∀ {rs : List Rv} {ys : List Rv} {z : Rv}, t ≤ z.1 → (∀ x ∈ z :: rs, 0 ≤ x.2) → (z :: rs).Pairwise (fun a b => a.1 ≤ b.1) → (rs.foldl (sStep t) (ys ++ [z], z.1)).1 = ys ++ sinceS t (z :: rs) := by
  intro rs
  induction rs with
  | nil => intro ys z hz _ _; simp [sinceS, hz]
  | cons y r ih =>
    intro ys z hz h0 hp
    have hzy := (List.pairwise_cons.1 hp).1 y (List.mem_cons_self ..)
    have hp2 := (List.pairwise_cons.1 hp).2
    have hy0 := h0 y (List.mem_cons_of_mem _ (List.mem_cons_self ..))
    have hg : ¬ gtB (t, 0) y = true := by rw [gt0 hy0, decide_eq_true_iff]; omega
    rw [List.foldl_cons]
    by_cases he : y.1 = z.1
    · have e1 : sStep t (ys ++ [z], z.1) y = (ys ++ [y], y.1) := by
        unfold sStep
        rw [if_neg hg, if_pos he, List.dropLast_concat, he]
      rw [e1, ih (by omega) (fun x hx => h0 x (List.mem_cons_of_mem _ hx)) hp2]
      show _ = ys ++ (if z.1 ≥ t ∧ y.1 ≠ z.1 then _ else _)
      rw [if_neg (by simp [he])]
    · have e1 : sStep t (ys ++ [z], z.1) y = ((ys ++ [z]) ++ [y], y.1) := by
        unfold sStep
        rw [if_neg hg, if_neg he]
      rw [e1, ih (by omega) (fun x hx => h0 x (List.mem_cons_of_mem _ hx)) hp2]
      show _ = ys ++ (if z.1 ≥ t ∧ y.1 ≠ z.1 then _ else _)
      rw [if_pos ⟨hz, he⟩, List.append_assoc]
      rfl
theorem since_fold {t : Int} : ∀ {rs : List Rv}, (∀ x ∈ rs, 0 ≤ x.2 ∧ x.1 ≠ 0) → rs.Pairwise (fun a b => a.1 ≤ b.1) → (rs.foldl (sStep t) ([], 0)).1 = sinceS t rs := by
  intro rs
  induction rs with
  | nil => intro _ _; rfl
  | cons x r ih =>
    intro h0 hp
    have hx := h0 x (List.mem_cons_self ..)
    rw [List.foldl_cons]
    by_cases ht : x.1 < t
    · have e1 : sStep t ([], 0) x = ([], 0) := by unfold sStep; rw [if_pos (by rw [gt0 hx.1, decide_eq_true_iff]; exact ht)]
      rw [e1, ih (fun y hy => h0 y (List.mem_cons_of_mem _ hy)) (List.pairwise_cons.1 hp).2]
      cases r with
      | nil => show [] = if x.1 ≥ t then [x] else []; rw [if_neg (by omega)]
      | cons y r => show _ = if x.1 ≥ t ∧ y.1 ≠ x.1 then _ else _; rw [if_neg (by omega)]
    · have e1 : sStep t ([], 0) x = ([] ++ [x], x.1) := by
        unfold sStep
        rw [if_neg (by rw [gt0 hx.1, decide_eq_true_iff]; exact ht), if_neg hx.2]
      rw [e1, since_go (by omega) (fun y hy => (h0 y hy).1) hp]
      rfl
theorem skip_fold {t : Int} {st : List Rv × Int} : ∀ {rs : List Rv}, (∀ x ∈ rs, 0 ≤ x.2 ∧ x.1 < t) → rs.foldl (sStep t) st = st := by
  intro rs
  induction rs with
  | nil => intro _; rfl
  | cons x r ih =>
    intro h
    have hx := h x (List.mem_cons_self ..)
    rw [List.foldl_cons]
    have e1 : sStep t st x = st := by unfold sStep; rw [if_pos (by rw [gt0 hx.1, decide_eq_true_iff]; exact hx.2)]
    rw [e1, ih fun y hy => h y (List.mem_cons_of_mem _ hy)]
theorem sgi_spec {t : Int} {G : List Gn} : ∀ k, sgi t G k ≤ k ∧ (sgi t G k = 0 ∨ ((nthG G (sgi t G k)).2.2 ≠ [] ∧ gtB (t, 0) (nthG G (sgi t G k)).2.1 = true)) := by
  intro k
  induction k with
  | zero => exact ⟨Nat.le_refl _, .inl rfl⟩
  | succ k ih =>
    unfold sgi
    split
    · exact ⟨by omega, ih.2⟩
    · split
      · rename_i h1 h2; exact ⟨Nat.le_refl _, .inr ⟨h1, h2⟩⟩
      · exact ⟨by omega, ih.2⟩
theorem lives_lt : ∀ {G : List Gn}, Lives G → ∀ {i j : Nat} {g h : Gn}, i < j → G[i]? = some g → G[j]? = some h → ∀ x ∈ g.2.2, ∀ y ∈ h.2.2, x.1 < y.1 := by
  intro G
  induction G with
  | nil => intro _ i j g h _ h1; simp at h1
  | cons g0 G ih =>
    intro hL i j g h hij h1 h2 x hx y hy
    cases G with
    | nil => cases j with | zero => omega | succ j => simp at h2
    | cons h0 r =>
      obtain ⟨_, _, l3, l4⟩ := hL
      cases j with
      | zero => omega
      | succ j =>
        cases i with
        | zero =>
          simp at h1
          subst h1
          exact l3 x hx h (List.mem_of_getElem? h2) y hy
        | succ i => exact ih l4 (i := i) (j := j) (by omega) h1 h2 x hx y hy
theorem lives_pair : ∀ {G : List Gn}, Lives G → (G.flatMap (·.2.2)).Pairwise (fun a b => a.1 ≤ b.1) ∧ ∀ g ∈ G, g.2.2.Pairwise (fun a b => a.1 ≤ b.1) := by
  intro G
  induction G with
  | nil => intro _; exact ⟨by simp, by simp⟩
  | cons g G ih =>
    intro hL
    cases G with
    | nil => exact ⟨by simp only [List.flatMap_cons, List.flatMap_nil, List.append_nil]; exact hL, by intro k hk; simp at hk; subst hk; exact hL⟩
    | cons h r =>
      obtain ⟨_, l2, l3, l4⟩ := hL
      obtain ⟨i1, i2⟩ := ih l4
      refine ⟨?_, ?_⟩
      · rw [List.flatMap_cons, List.pairwise_append]
        refine ⟨l2, i1, fun x hx y hy => ?_⟩
        obtain ⟨k, hk, hy2⟩ := List.mem_flatMap.1 hy
        have := l3 x hx k hk y hy2
        omega
      · intro k hk
        rcases List.mem_cons.1 hk with rfl | hk
        · exact l2
        · exact i2 k hk
theorem since_law {t : Int} {G : List Gn} (hL : Lives G) (h0 : ∀ x ∈ G.flatMap (·.2.2), 0 ≤ x.2 ∧ x.1 ≠ 0) (hc : ∀ i g, G[i + 1]? = some g → g.2.2 ≠ [] → g.2.1 = g.2.2.headD (0, 0)) : sinceG t G = sinceS t (G.flatMap (·.2.2)) := by
  unfold sinceG
  rw [← since_fold h0 (lives_pair hL).1]
  obtain ⟨h1, h2⟩ := sgi_spec (t := t) (G := G) (G.length - 1)
  generalize sgi t G (G.length - 1) = s at h1 h2
  have e1 : G.flatMap (·.2.2) = (G.take s).flatMap (·.2.2) ++ (G.drop s).flatMap (·.2.2) := by
    rw [← List.flatMap_append, List.take_append_drop]
  rw [e1, List.foldl_append]
  congr 1
  congr 1
  symm
  refine skip_fold fun x hx => ?_
  obtain ⟨g, hg, hxg⟩ := List.mem_flatMap.1 hx
  have hx0 := h0 x (by rw [e1]; exact List.mem_append_left _ hx)
  refine ⟨hx0.1, ?_⟩
  obtain ⟨i, hi⟩ := List.getElem?_of_mem hg
  rw [List.getElem?_take] at hi
  split at hi
  · rename_i his
    rcases h2 with h2 | ⟨h2, h3⟩
    · omega
    · have hs : s < G.length := by
        have := (List.getElem?_eq_some_iff.1 hi).1; omega
      have hgs : G[s]? = some (nthG G s) := by unfold nthG; rw [List.getD_eq_getElem?_getD, List.getElem?_eq_getElem hs]; rfl
      have hcr := hc (s - 1) (nthG G s) (by rw [show s - 1 + 1 = s by omega]; exact hgs) h2
      have hm : (nthG G s).2.2.headD (0, 0) ∈ (nthG G s).2.2 := by
        cases hh : (nthG G s).2.2 with
        | nil => exact absurd hh h2
        | cons a r => exact List.mem_cons_self ..
      have hlt := lives_lt hL his hi hgs x hxg _ hm
      have hs0 := h0 _ (List.mem_flatMap.2 ⟨_, List.mem_of_getElem? hgs, hm⟩)
      rw [hcr, gt0 hs0.1, decide_eq_true_iff] at h3
      omega
  · cases hi
/-! Changes -/
theorem versG_snoc {g : Gn} : ∀ {G : List Gn}, versG (G ++ [g]) = G.flatMap (fun k => lifeV k true) ++ lifeV g false := by
  intro G
  induction G with
  | nil => simp [versG]
  | cons k G ih =>
    rw [List.flatMap_cons, List.append_assoc, ← ih]
    cases G with
    | nil => rfl
    | cons h r => rfl
theorem lifeV_put {g : Gn} {rev : Rv} {e : Bool} (h0 : g.2.2 = [] → g = g0) : lifeV (putG g rev) e = lifeV g false ++ [⟨rev, if g.2.2 = [] then rev else g.2.1, g.1 + 1, e⟩] := by
  refine List.ext_getElem? fun i => ?_
  rw [lifeV_get]
  show (g.2.2 ++ [rev])[i]?.map _ = _
  by_cases hi : i < g.2.2.length
  · rw [List.getElem?_append_left hi, List.getElem?_append_left (by rw [lifeV_len]; exact hi), lifeV_get]
    have hne : g.2.2 ≠ [] := by intro h; rw [h] at hi; simp at hi
    rw [List.getElem?_eq_getElem hi]
    simp only [Option.map_some, putG, List.length_append, List.length_cons, List.length_nil, if_neg hne]
    congr 2
    · push_cast; omega
    · rw [decide_eq_false (by omega), Bool.and_false, Bool.false_and]
  · rw [List.getElem?_append_right (by omega), List.getElem?_append_right (by rw [lifeV_len]; omega), lifeV_len]
    by_cases hi2 : i = g.2.2.length
    · subst hi2
      simp only [Nat.sub_self, List.getElem?_cons_zero, Option.map_some, putG, List.length_append, List.length_cons, List.length_nil]
      congr 2
      · push_cast; omega
      · simp
    · rw [List.getElem?_eq_none (by simp; omega), List.getElem?_eq_none (by simp; omega)]
      rfl
def livesS (l : List Vs) : Bool := match l.getLast? with | none => false | some v => !v.gone
def modS (l : List Vs) : Rv := match l.getLast? with | none => (0, 0) | some v => v.rev
def writtenS (l : List Vs) (rev : Rv) : List Vs := l ++ [if livesS l then ⟨rev, (match l.getLast? with | none => rev | some v => v.cr), (match l.getLast? with | none => 1 | some v => v.ver + 1), false⟩ else ⟨rev, rev, 1, false⟩]
def endedS (l : List Vs) (rev : Rv) : List Vs := l ++ [⟨rev, (match l.getLast? with | none => rev | some v => v.cr), (match l.getLast? with | none => 1 | some v => v.ver + 1), true⟩]
theorem life_last {g : Gn} {e : Bool} (h : g.2.2 ≠ []) : ∃ x, g.2.2.getLast? = some x ∧ (lifeV g e).getLast? = some ⟨x, g.2.1, g.1, e⟩ := by
  obtain ⟨x, hx, _⟩ := lastM_get h
  have h0 : 0 < g.2.2.length := List.length_pos_iff.2 h
  refine ⟨x, by rw [List.getLast?_eq_getElem?]; exact hx, ?_⟩
  rw [List.getLast?_eq_getElem?, lifeV_len, lifeV_get, hx]
  simp only [Option.map_some]
  congr 2
  · omega
  · rw [decide_eq_true (by omega), Bool.and_true]
/-- What the lives of a key are like: those that are over have changes; the last one may wait. -/
def Shape (G : List Gn) : Prop := ∃ G0 g, G = G0 ++ [g] ∧ (∀ k ∈ G0, k.2.2 ≠ []) ∧ (g.2.2 = [] → g = g0)
theorem shape_last {G0 : List Gn} {g : Gn} (h1 : ∀ k ∈ G0, k.2.2 ≠ []) (h2 : g.2.2 ≠ []) : (versG (G0 ++ [g])).getLast? = (lifeV g false).getLast? := by
  obtain ⟨x, _, hx⟩ := life_last (e := false) h2
  rw [versG_snoc, List.getLast?_append, hx]
  rfl
theorem shape_last0 {G0 : List Gn} {g : Gn} (h1 : ∀ k ∈ G0, k.2.2 ≠ []) (h2 : g.2.2 = []) : (versG (G0 ++ [g])).getLast? = none ∧ G0 = [] ∨ ∃ G1 k x, G0 = G1 ++ [k] ∧ k.2.2.getLast? = some x ∧ (versG (G0 ++ [g])).getLast? = some ⟨x, k.2.1, k.1, true⟩ := by
  have hv : lifeV g false = [] := by unfold lifeV; rw [h2]; rfl
  rw [versG_snoc, hv, List.append_nil]
  rcases List.eq_nil_or_concat G0 with rfl | ⟨G1, k, rfl⟩
  · exact .inl ⟨rfl, rfl⟩
  · rw [List.concat_eq_append] at *
    obtain ⟨x, h3, hx⟩ := life_last (g := k) (e := true) (h1 k (by simp))
    exact .inr ⟨G1, k, x, rfl, h3, by rw [List.flatMap_append, List.getLast?_append]; simp [hx]⟩
theorem lives_shape {G0 : List Gn} {g : Gn} (h1 : ∀ k ∈ G0, k.2.2 ≠ []) : livesS (versG (G0 ++ [g])) = !decide (g.2.2 = []) := by
  unfold livesS
  by_cases h2 : g.2.2 = []
  · rw [decide_eq_true h2]
    rcases shape_last0 h1 h2 with ⟨h, _⟩ | ⟨_, _, _, _, _, h⟩ <;> rw [h] <;> rfl
  · rw [decide_eq_false h2, shape_last h1 h2]
    obtain ⟨x, _, hx⟩ := life_last (e := false) h2
    rw [hx]
theorem written_law {G0 : List Gn} {g : Gn} {rev : Rv} (h1 : ∀ k ∈ G0, k.2.2 ≠ []) (h2 : g.2.2 = [] → g = g0) : versG (putGs (G0 ++ [g]) rev) = writtenS (versG (G0 ++ [g])) rev := by
  have e1 : putGs (G0 ++ [g]) rev = G0 ++ [putG g rev] := by unfold putGs; simp
  rw [e1, versG_snoc, lifeV_put h2, ← List.append_assoc, ← versG_snoc]
  unfold writtenS
  rw [lives_shape h1]
  congr 1
  by_cases h3 : g.2.2 = []
  · rw [decide_eq_true h3, if_pos h3]
    have := h2 h3
    subst this
    rfl
  · rw [decide_eq_false h3, if_neg h3, shape_last h1 h3]
    obtain ⟨x, _, hx⟩ := life_last (e := false) h3
    rw [hx]; rfl
theorem ended_law {G0 : List Gn} {g : Gn} {rev : Rv} (h1 : ∀ k ∈ G0, k.2.2 ≠ []) (h2 : g.2.2 ≠ []) : versG (putGs (G0 ++ [g]) rev ++ [g0]) = endedS (versG (G0 ++ [g])) rev := by
  have e1 : putGs (G0 ++ [g]) rev = G0 ++ [putG g rev] := by unfold putGs; simp
  have e2 : lifeV g0 false = [] := rfl
  rw [e1, versG_snoc, e2, List.append_nil, List.flatMap_append, List.flatMap_cons, List.flatMap_nil, List.append_nil, lifeV_put (fun h => absurd h h2), ← List.append_assoc, ← versG_snoc]
  unfold endedS
  congr 1
  rw [if_neg h2, shape_last h1 h2]
  obtain ⟨x, _, hx⟩ := life_last (e := false) h2
  rw [hx]
/-! Dumps -/
def dStep (st : List Gn × Bool) (v : Vs) : List Gn × Bool :=
  let A := if st.2 then st.1 else st.1 ++ [(0, v.cr, [])]
  (A.dropLast ++ [(v.ver, (A.getLastD g0).2.1, (A.getLastD g0).2.2 ++ [v.rev])], !v.gone)
def dumpG (l : List Vs) : List Gn := if l ≠ [] ∧ livesS l = false then (l.foldl dStep ([], false)).1 ++ [g0] else (l.foldl dStep ([], false)).1
theorem snoc_ind {α : Type} {P : List α → Prop} (h0 : P []) (h1 : ∀ l x, P l → P (l ++ [x])) (l : List α) : P l := by
  have : ∀ n (l : List α), l.length = n → P l := by
    intro n
    induction n with
    | zero => intro l hl; rw [List.eq_nil_of_length_eq_zero hl]; exact h0
    | succ n ih =>
      intro l hl
      rcases List.eq_nil_or_concat l with rfl | ⟨l', x, rfl⟩
      · exact h0
      · rw [List.concat_eq_append] at *
        exact h1 l' x (ih l' (by simp at hl; exact hl))
  exact this _ l rfl
theorem lifeV_snoc {ver : Int} {cr r : Rv} {rs : List Rv} {e : Bool} : lifeV (ver, cr, rs ++ [r]) e = lifeV (ver - 1, cr, rs) false ++ [⟨r, cr, ver, e⟩] := by
  refine List.ext_getElem? fun i => ?_
  rw [lifeV_get]
  by_cases hi : i < rs.length
  · rw [List.getElem?_append_left hi, List.getElem?_append_left (by rw [lifeV_len]; exact hi), lifeV_get, List.getElem?_eq_getElem hi]
    simp only [Option.map_some, List.length_append, List.length_cons, List.length_nil]
    congr 2
    · push_cast; omega
    · rw [decide_eq_false (by omega), Bool.and_false, Bool.false_and]
  · rw [List.getElem?_append_right (by omega), List.getElem?_append_right (by rw [lifeV_len]; dsimp only; omega), lifeV_len]
    by_cases hi2 : i = rs.length
    · subst hi2
      simp only [Nat.sub_self, List.getElem?_cons_zero, Option.map_some, List.length_append, List.length_cons, List.length_nil]
      congr 2
      · push_cast; omega
      · simp
    · rw [List.getElem?_eq_none (by simp; omega), List.getElem?_eq_none (by simp; omega)]
      rfl
theorem dump_life0 {acc : List Gn} {cr : Rv} : ∀ (rs : List Rv) (ver : Int), (lifeV (ver, cr, rs) false).foldl dStep (acc, false) = if rs = [] then (acc, false) else (acc ++ [(ver, cr, rs)], true) := by
  intro rs
  induction rs using snoc_ind with
  | h0 => intro ver; rfl
  | h1 rs r ih =>
    intro ver
    have hne : rs ++ [r] ≠ [] := by simp
    rw [lifeV_snoc, List.foldl_append, ih (ver - 1), if_neg hne]
    by_cases h : rs = []
    · subst h; simp [dStep, g0]
    · rw [if_neg h]; simp [dStep]
theorem dump_life {acc : List Gn} {g : Gn} {e : Bool} (h : g.2.2 ≠ []) : (lifeV g e).foldl dStep (acc, false) = (acc ++ [g], !e) := by
  obtain ⟨ver, cr, rs⟩ := g
  rcases List.eq_nil_or_concat rs with rfl | ⟨rs, r, rfl⟩
  · exact absurd rfl h
  · rw [List.concat_eq_append]
    rw [lifeV_snoc, List.foldl_append, dump_life0]
    by_cases h : rs = []
    · subst h; simp [dStep, g0]
    · rw [if_neg h]; simp [dStep]
theorem dump_lives : ∀ {G : List Gn} {acc : List Gn}, (∀ k ∈ G, k.2.2 ≠ []) → (G.flatMap fun k => lifeV k true).foldl dStep (acc, false) = (acc ++ G, false) := by
  intro G
  induction G with
  | nil => intro acc _; simp
  | cons k G ih =>
    intro acc h
    rw [List.flatMap_cons, List.foldl_append, dump_life (h k (List.mem_cons_self ..)), Bool.not_true, ih fun x hx => h x (List.mem_cons_of_mem _ hx)]
    simp
theorem dump_law {G : List Gn} (hS : Shape G) (hne : versG G ≠ []) : dumpG (versG G) = G := by
  obtain ⟨G0, g, rfl, h1, h2⟩ := hS
  unfold dumpG
  rw [lives_shape h1]
  by_cases h3 : g.2.2 = []
  · have hv : lifeV g false = [] := by unfold lifeV; rw [h3]; rfl
    rw [if_pos ⟨hne, by rw [decide_eq_true h3]; rfl⟩, versG_snoc, hv, List.append_nil, dump_lives h1, h2 h3]
    simp
  · rw [if_neg (by rw [decide_eq_false h3]; simp), versG_snoc, List.foldl_append, dump_lives h1, dump_life h3]
    simp
/-! What always holds -/
def Waits (G : List Gn) : Prop := ∀ g, G.getLast? = some g → g.2.2 = [] → g = g0
theorem lives_ne {g : Gn} : ∀ {G0 : List Gn}, Lives (G0 ++ [g]) → ∀ k ∈ G0, k.2.2 ≠ [] := by
  intro G0
  induction G0 with
  | nil => intro _ k hk; cases hk
  | cons a G0 ih =>
    intro hL k hk
    have h2 : a.2.2 ≠ [] ∧ Lives (G0 ++ [g]) := by
      cases G0 with
      | nil => exact ⟨hL.1, hL.2.2.2⟩
      | cons b r => exact ⟨hL.1, hL.2.2.2⟩
    rcases List.mem_cons.1 hk with rfl | hk
    · exact h2.1
    · exact ih h2.2 k hk
theorem shape_of {G : List Gn} (hL : Lives G) (hW : Waits G) (hne : G ≠ []) : Shape G := by
  rcases List.eq_nil_or_concat G with rfl | ⟨G0, g, rfl⟩
  · exact absurd rfl hne
  · rw [List.concat_eq_append] at *
    exact ⟨G0, g, rfl, lives_ne hL, fun h => hW g (by simp) h⟩
theorem lives_tail {g : Gn} {r : List Gn} (h : Lives (g :: r)) : Lives r := by
  cases r with
  | nil => trivial
  | cons a r => exact h.2.2.2
theorem lives_cut {t : Int} {g : Gn} {r : List Gn} (h : Lives (g :: r)) : Lives (cut t g :: r) := by
  have hc : ∃ j, (cut t g).2.2 = g.2.2.drop j ∧ (j = 0 ∨ j < g.2.2.length) := by
    unfold cut
    cases hw : wkO t g.2.2 g.2.2.length with
    | none => exact ⟨0, rfl, .inl rfl⟩
    | some j => exact ⟨j, rfl, .inr (wkO_lt hw).2⟩
  obtain ⟨j, hj, hj2⟩ := hc
  cases r with
  | nil =>
    show (cut t g).2.2.Pairwise _
    rw [hj]
    exact List.Pairwise.sublist (List.drop_sublist _ _) h
  | cons a r =>
    obtain ⟨h1, h2, h3, h4⟩ := h
    refine ⟨?_, ?_, ?_, h4⟩
    · rw [hj]
      intro h0
      have := congrArg List.length h0
      rw [List.length_drop] at this
      have := List.length_pos_iff.2 h1
      simp at *
      omega
    · rw [hj]; exact List.Pairwise.sublist (List.drop_sublist _ _) h2
    · rw [hj]
      intro x hx
      exact h3 x (List.drop_sublist _ _ |>.mem hx)
theorem cpR_split {t : Int} : ∀ {G : List Gn}, G ≠ [] → ∃ P g r, G = P ++ g :: r ∧ cpR t G = cut t g :: r := by
  intro G
  induction G with
  | nil => intro h; exact absurd rfl h
  | cons g G ih =>
    intro _
    cases G with
    | nil => exact ⟨[], g, [], rfl, rfl⟩
    | cons h r =>
      show ∃ P k s, g :: h :: r = P ++ k :: s ∧ (if lastM g.2.2 ≥ t then cut t g :: h :: r else cpR t (h :: r)) = cut t k :: s
      by_cases hl : lastM g.2.2 ≥ t
      · rw [if_pos hl]; exact ⟨[], g, h :: r, rfl, rfl⟩
      · rw [if_neg hl]
        obtain ⟨P, k, s, h1, h2⟩ := ih (by simp)
        exact ⟨g :: P, k, s, by rw [h1]; rfl, h2⟩
theorem lives_drop : ∀ {P : List Gn} {r : List Gn}, Lives (P ++ r) → Lives r := by
  intro P
  induction P with
  | nil => intro r h; exact h
  | cons a P ih => intro r h; exact ih (lives_tail h)
theorem cut_eq {t : Int} {g : Gn} : ∃ j, cut t g = (g.1, g.2.1, g.2.2.drop j) ∧ (j = 0 ∨ j < g.2.2.length) := by
  unfold cut
  cases hw : wkO t g.2.2 g.2.2.length with
  | none => exact ⟨0, by simp, .inl rfl⟩
  | some j => exact ⟨j, rfl, .inr (wkO_lt hw).2⟩
theorem compS_last {t : Int} {l : List Vs} (h : compS t l ≠ []) : (compS t l).getLast? = l.getLast? := by
  unfold compS at h ⊢
  cases hi : lastI t l with
  | none => rfl
  | some j =>
    rw [hi] at h
    dsimp only at h ⊢
    obtain ⟨v, hv, _⟩ := lastI_some hi
    have hjl := (List.getElem?_eq_some_iff.1 hv).1
    rw [hv] at h ⊢
    rw [List.getLast?_append]
    by_cases hd : l.drop (j + 1) = []
    · rw [hd] at h ⊢
      have hj : j + 1 = l.length := by have := congrArg List.length hd; simp at this; omega
      have hlast : l.getLast? = some v := by rw [List.getLast?_eq_getElem?, show l.length - 1 = j by omega]; exact hv
      rw [hlast]
      cases hs : stayV t v with
      | true => simp [hs]
      | false => simp [hs] at h
    · have e : (l.drop (j + 1)).getLast? = l.getLast? := by
        rw [List.getLast?_drop, if_neg]
        intro h2
        exact hd (List.drop_eq_nil_of_le h2)
      rw [e]
      cases hl : l.getLast? with
      | none => rw [List.getLast?_eq_none_iff] at hl; rw [hl] at hjl; simp at hjl
      | some v => rfl
structure Inv (md : Rv) (G : List Gn) (N : Nat) : Prop where
  ne : G ≠ []
  lives : Lives G
  waits : Waits G
  pos : ∀ g ∈ G, ∀ x ∈ g.2.2, 1 ≤ x.1 ∧ 0 ≤ x.2
  cr : ∀ i g, G[i + 1]? = some g → g.2.2 ≠ [] → g.2.1 = g.2.2.headD (0, 0)
  vne : versG G ≠ []
  md : md = modS (versG G)
  len : (G.flatMap (·.2.2)).length ≤ N
  glen : G.length ≤ N + 1
  ver : ∀ g ∈ G, 0 ≤ g.1 ∧ g.1 ≤ N
theorem Inv.mono {md : Rv} {G : List Gn} {N M : Nat} (h : Inv md G N) (hm : N ≤ M) : Inv md G M :=
  ⟨h.ne, h.lives, h.waits, h.pos, h.cr, h.vne, h.md, by have := h.len; omega, by have := h.glen; omega, fun g hg => by have := h.ver g hg; omega⟩
theorem versG_len {G : List Gn} : (versG G).length = (G.flatMap (·.2.2)).length := by
  induction G with
  | nil => rfl
  | cons g G ih =>
    cases G with
    | nil => simp [versG, lifeV_len]
    | cons h r =>
      show (lifeV g true ++ versG (h :: r)).length = _
      rw [List.length_append, ih, lifeV_len]
      simp only [List.flatMap_cons, List.length_append]
theorem inv_compact {md : Rv} {G : List Gn} {N : Nat} {t : Int} (I : Inv md G N) (hv : compS t (versG G) ≠ []) : Inv md (compactG t G) N ∧ versG (compactG t G) = compS t (versG G) := by
  have e1 := compactG_eq (t := t) I.ne
  have e2 := comp_law (t := t) I.lives I.ne
  obtain ⟨P, g, r, h1, h2⟩ := cpR_split (t := t) I.ne
  rw [e1, ← e2]
  refine ⟨?_, rfl⟩
  obtain ⟨j, hc, hj⟩ := cut_eq (t := t) (g := g)
  have hL := I.lives
  rw [h1] at hL
  have hL2 := lives_drop hL
  have hsub : ∀ x ∈ (cut t g).2.2, x ∈ g.2.2 := by
    rw [hc]; intro x hx; exact (List.drop_sublist _ _).mem hx
  have hmem : ∀ k ∈ g :: r, k ∈ G := by rw [h1]; intro k hk; exact List.mem_append_right _ hk
  refine ⟨by rw [h2]; simp, by rw [h2]; exact lives_cut hL2, ?_, ?_, ?_, by rw [← e2]; exact hv, ?_, ?_, ?_, ?_⟩
  · rw [h2]
    intro k hk hk0
    cases r with
    | nil =>
      simp at hk
      subst hk
      have hg : g.2.2 = [] := by
        rcases hj with rfl | hj
        · rw [hc] at hk0; simpa using hk0
        · rw [hc] at hk0
          have := congrArg List.length hk0
          simp at this; omega
      have := I.waits g (by rw [h1]; simp) hg
      rw [hc, hg, List.drop_nil, ← hg]
      exact this
    | cons a r =>
      rw [List.getLast?_cons_cons] at hk
      exact I.waits k (by rw [h1, List.getLast?_append, List.getLast?_cons_cons, hk]; rfl) hk0
  · rw [h2]
    intro k hk x hx
    rcases List.mem_cons.1 hk with rfl | hk
    · exact I.pos g (hmem g (List.mem_cons_self ..)) x (hsub x hx)
    · exact I.pos k (hmem k (List.mem_cons_of_mem _ hk)) x hx
  · rw [h2]
    intro i k hk hk0
    rw [List.getElem?_cons_succ] at hk
    exact I.cr (P.length + i) k (by rw [h1, List.getElem?_append_right (by omega), show P.length + i + 1 - P.length = i + 1 by omega, List.getElem?_cons_succ]; exact hk) hk0
  · rw [I.md]
    unfold modS
    rw [← e2, compS_last hv]
  · rw [h2]
    have := I.len
    rw [h1] at this
    simp only [List.flatMap_append, List.flatMap_cons, List.length_append] at this ⊢
    have : (cut t g).2.2.length ≤ g.2.2.length := by rw [hc]; simp
    omega
  · rw [h2]
    have := I.glen
    rw [h1] at this
    simp at this ⊢
    omega
  · rw [h2]
    intro k hk
    rcases List.mem_cons.1 hk with rfl | hk
    · have := I.ver g (hmem g (List.mem_cons_self ..))
      rw [hc]; exact this
    · exact I.ver k (hmem k (List.mem_cons_of_mem _ hk))
/-! Step by step -/
theorem versG_map : ∀ {G : List Gn}, (versG G).map (·.rev) = G.flatMap (·.2.2) := by
  intro G
  induction G with
  | nil => rfl
  | cons g G ih =>
    cases G with
    | nil => simp [versG, lifeV_revs]
    | cons h r =>
      show (lifeV g true ++ versG (h :: r)).map (·.rev) = _
      rw [List.map_append, ih, lifeV_revs]
      simp only [List.flatMap_cons]
theorem mod_eq {G : List Gn} : modS (versG G) = ((G.flatMap (·.2.2)).getLast?).getD (0, 0) := by
  rw [← versG_map, List.getLast?_map]
  unfold modS
  cases (versG G).getLast? <;> rfl
theorem Inv.top {md : Rv} {G : List Gn} {N : Nat} (I : Inv md G N) : ∀ g ∈ G, ∀ x ∈ g.2.2, x.1 ≤ md.1 := by
  intro g hg x hx
  have hm : x ∈ G.flatMap (·.2.2) := List.mem_flatMap.2 ⟨g, hg, hx⟩
  have hp := (lives_pair I.lives).1
  rw [I.md, mod_eq]
  generalize G.flatMap (·.2.2) = L at hm hp
  rcases List.eq_nil_or_concat L with rfl | ⟨L0, y, rfl⟩
  · cases hm
  · rw [List.concat_eq_append] at *
    rw [List.getLast?_append]
    rcases List.mem_append.1 hm with h | h
    · have := (List.pairwise_append.1 hp).2.2 x h y (by simp)
      simpa using this
    · simp at h; subst h; simp
theorem lives_repl {g g' : Gn} : ∀ {G0 : List Gn}, Lives (G0 ++ [g]) → g'.2.2.Pairwise (fun a b => a.1 ≤ b.1) → (∀ k ∈ G0, ∀ x ∈ k.2.2, ∀ y ∈ g'.2.2, x.1 < y.1) → Lives (G0 ++ [g']) := by
  intro G0
  induction G0 with
  | nil => intro _ hp _; exact hp
  | cons a G0 ih =>
    intro hL hp hx
    have h2 : a.2.2 ≠ [] ∧ a.2.2.Pairwise (fun a b => a.1 ≤ b.1) ∧ (∀ x ∈ a.2.2, ∀ k ∈ G0 ++ [g], ∀ y ∈ k.2.2, x.1 < y.1) ∧ Lives (G0 ++ [g]) := by
      cases G0 with
      | nil => exact hL
      | cons b r => exact hL
    have h3 : a.2.2 ≠ [] ∧ a.2.2.Pairwise (fun a b => a.1 ≤ b.1) ∧ (∀ x ∈ a.2.2, ∀ k ∈ G0 ++ [g'], ∀ y ∈ k.2.2, x.1 < y.1) ∧ Lives (G0 ++ [g']) := by
      refine ⟨h2.1, h2.2.1, fun x hxa k hk y hy => ?_, ih h2.2.2.2 hp fun k hk => hx k (List.mem_cons_of_mem _ hk)⟩
      rcases List.mem_append.1 hk with hk | hk
      · exact h2.2.2.1 x hxa k (List.mem_append_left _ hk) y hy
      · simp at hk; subst hk; exact hx a (List.mem_cons_self ..) x hxa y hy
    cases G0 with
    | nil => exact h3
    | cons b r => exact h3
theorem lives_wait : ∀ {G : List Gn}, Lives G → (∀ k ∈ G, k.2.2 ≠ []) → Lives (G ++ [g0]) := by
  intro G
  induction G with
  | nil => intro _ _; exact List.Pairwise.nil
  | cons a G ih =>
    intro hL hne
    have h4 := ih (lives_tail hL) fun k hk => hne k (List.mem_cons_of_mem _ hk)
    cases G with
    | nil =>
      refine ⟨hne a (List.mem_cons_self ..), hL, fun x _ k hk y hy => ?_, h4⟩
      simp at hk; subst hk; cases hy
    | cons b r =>
      obtain ⟨h1, h2, h3, _⟩ := hL
      refine ⟨h1, h2, fun x hx k hk y hy => ?_, h4⟩
      rcases List.mem_append.1 (show k ∈ (b :: r) ++ [g0] from hk) with hk | hk
      · exact h3 x hx k hk y hy
      · simp at hk; subst hk; cases hy
def lessR (a b : Rv) : Bool := gtB b a
theorem less_le {a b : Rv} (h : gtB b a = true) : a.1 ≤ b.1 := by
  unfold gtB at h
  simp at h
  omega
theorem inv_put0 {md : Rv} {G0 : List Gn} {g : Gn} {N : Nat} {rev : Rv} (I : Inv md (G0 ++ [g]) N) (hr : 1 ≤ rev.1 ∧ 0 ≤ rev.2) (hgt : gtB rev md = true) (hnew : g.2.2 = [] → md.1 ≠ rev.1) : Lives (G0 ++ [putG g rev]) := by
  have hle := less_le hgt
  have hn := lives_ne I.lives
  refine lives_repl I.lives ?_ ?_
  · show (g.2.2 ++ [rev]).Pairwise _
    rw [List.pairwise_append]
    refine ⟨(lives_pair I.lives).2 g (by simp), by simp, fun x hx y hy => ?_⟩
    simp at hy; subst hy
    have := I.top g (by simp) x hx
    omega
  · intro k hk x hx y hy
    rcases List.mem_append.1 (show y ∈ g.2.2 ++ [rev] from hy) with hy | hy
    · obtain ⟨i, hi⟩ := List.getElem?_of_mem hk
      have hil := (List.getElem?_eq_some_iff.1 hi).1
      exact lives_lt I.lives (i := i) (j := G0.length) hil (by rw [List.getElem?_append_left hil]; exact hi) (by simp) x hx y hy
    · simp at hy; subst hy
      by_cases h0 : g.2.2 = []
      · have := I.top k (by simp [hk]) x hx
        have := hnew h0
        omega
      · obtain ⟨z, hz⟩ := List.exists_mem_of_ne_nil _ h0
        obtain ⟨i, hi⟩ := List.getElem?_of_mem hk
        have hil := (List.getElem?_eq_some_iff.1 hi).1
        have h5 := lives_lt I.lives (i := i) (j := G0.length) hil (by rw [List.getElem?_append_left hil]; exact hi) (by simp) x hx z hz
        have := I.top g (by simp) z hz
        omega
theorem putGs_snoc {G0 : List Gn} {g : Gn} {rev : Rv} : putGs (G0 ++ [g]) rev = G0 ++ [putG g rev] := by unfold putGs; simp
theorem modS_snoc {l : List Vs} {v : Vs} : modS (l ++ [v]) = v.rev := by unfold modS; simp
theorem put_cr {G0 : List Gn} {g : Gn} {rev : Rv} (hc : ∀ i k, (G0 ++ [g])[i + 1]? = some k → k.2.2 ≠ [] → k.2.1 = k.2.2.headD (0, 0)) : ∀ i k, (G0 ++ [putG g rev])[i + 1]? = some k → k.2.2 ≠ [] → k.2.1 = k.2.2.headD (0, 0) := by
  intro i k hk h0
  by_cases hi : i + 1 < G0.length
  · rw [List.getElem?_append_left hi] at hk
    exact hc i k (by rw [List.getElem?_append_left hi]; exact hk) h0
  · rw [List.getElem?_append_right (by omega)] at hk
    by_cases hi2 : i + 1 = G0.length
    · rw [show i + 1 - G0.length = 0 by omega] at hk
      simp at hk
      subst hk
      unfold putG
      dsimp only
      by_cases h1 : g.2.2 = []
      · rw [if_pos h1, h1]; rfl
      · rw [if_neg h1, hc i g (by rw [List.getElem?_append_right (by omega), show i + 1 - G0.length = 0 by omega]; rfl) h1]
        cases hg : g.2.2 with
        | nil => exact absurd hg h1
        | cons a r => rfl
    · rw [List.getElem?_eq_none (by simp; omega)] at hk
      cases hk
theorem inv_put {md : Rv} {G : List Gn} {N : Nat} {rev : Rv} (I : Inv md G N) (hr : 1 ≤ rev.1 ∧ 0 ≤ rev.2) (hgt : gtB rev md = true) (hnew : livesS (versG G) = false → md.1 ≠ rev.1) : Inv rev (putGs G rev) (N + 1) ∧ versG (putGs G rev) = writtenS (versG G) rev := by
  obtain ⟨G0, g, rfl, h1, h2⟩ := shape_of I.lives I.waits I.ne
  have hw := written_law (rev := rev) h1 h2
  have hL := inv_put0 I hr hgt (fun h => hnew (by rw [lives_shape h1, decide_eq_true h]; rfl))
  refine ⟨?_, hw⟩
  rw [putGs_snoc] at hw ⊢
  refine ⟨by simp, hL, ?_, ?_, put_cr I.cr, by rw [hw]; unfold writtenS; simp, by rw [hw]; unfold writtenS; rw [modS_snoc]; split <;> rfl, ?_, ?_, ?_⟩
  · intro k hk hk0
    simp at hk; subst hk
    unfold putG at hk0; simp at hk0
  · intro k hk x hx
    rcases List.mem_append.1 hk with hk | hk
    · exact I.pos k (List.mem_append_left _ hk) x hx
    · simp at hk; subst hk
      rcases List.mem_append.1 (show x ∈ g.2.2 ++ [rev] from hx) with hx | hx
      · exact I.pos g (by simp) x hx
      · simp at hx; subst hx; exact hr
  · have := I.len
    simp only [List.flatMap_append, List.flatMap_cons, List.flatMap_nil, List.append_nil, List.length_append, putG, List.length_cons, List.length_nil] at this ⊢
    omega
  · have := I.glen
    simp only [List.length_append, List.length_cons, List.length_nil] at this ⊢
    omega
  · intro k hk
    rcases List.mem_append.1 hk with hk | hk
    · have := I.ver k (List.mem_append_left _ hk); omega
    · simp at hk; subst hk
      have := I.ver g (by simp)
      unfold putG
      dsimp only
      omega
theorem inv_tomb {md : Rv} {G : List Gn} {N : Nat} {rev : Rv} (I : Inv md G N) (hr : 1 ≤ rev.1 ∧ 0 ≤ rev.2) (hgt : gtB rev md = true) (hl : livesS (versG G) = true) : Inv rev (putGs G rev ++ [g0]) (N + 1) ∧ versG (putGs G rev ++ [g0]) = endedS (versG G) rev := by
  obtain ⟨P, _⟩ := inv_put I hr hgt (fun h => by rw [hl] at h; cases h)
  obtain ⟨G0, g, rfl, h1, h2⟩ := shape_of I.lives I.waits I.ne
  rw [lives_shape h1] at hl
  have h3 : g.2.2 ≠ [] := by simpa using hl
  have hw := ended_law (rev := rev) h1 h3
  refine ⟨?_, hw⟩
  have hall : ∀ k ∈ putGs (G0 ++ [g]) rev, k.2.2 ≠ [] := by
    rw [putGs_snoc]
    intro k hk
    rcases List.mem_append.1 hk with hk | hk
    · exact h1 k hk
    · simp at hk; subst hk; unfold putG; simp
  refine ⟨by simp, lives_wait P.lives hall, ?_, ?_, ?_, by rw [hw]; unfold endedS; simp, by rw [hw]; unfold endedS; rw [modS_snoc], ?_, ?_, ?_⟩
  · intro k hk _
    simp at hk; exact hk.symm
  · intro k hk x hx
    rcases List.mem_append.1 hk with hk | hk
    · exact P.pos k hk x hx
    · simp at hk; subst hk; cases hx
  · intro i k hk h0
    by_cases hi : i + 1 < (putGs (G0 ++ [g]) rev).length
    · rw [List.getElem?_append_left hi] at hk
      exact P.cr i k hk h0
    · rw [List.getElem?_append_right (by omega)] at hk
      by_cases hi2 : i + 1 = (putGs (G0 ++ [g]) rev).length
      · rw [show i + 1 - (putGs (G0 ++ [g]) rev).length = 0 by omega] at hk
        simp at hk; subst hk; exact absurd rfl h0
      · rw [List.getElem?_eq_none (by simp; omega)] at hk; cases hk
  · have := P.len
    rw [List.flatMap_append, List.length_append]
    simp only [List.flatMap_cons, List.flatMap_nil, g0, List.append_nil, List.length_nil]
    omega
  · have := I.glen
    rw [putGs_snoc]
    simp only [List.length_append, List.length_cons, List.length_nil] at this ⊢
    omega
  · intro k hk
    rcases List.mem_append.1 hk with hk | hk
    · exact P.ver k hk
    · simp at hk; subst hk; unfold g0; dsimp only; omega
/-- What a key's operation answers, and leaves, as the plain list of its changes has it. -/
def kyDo (l : List Vs) (o : KO) : Option (List Vs × An) :=
  if o.k = 1 then (if gtB o.rev (modS l) then some (writtenS l o.rev, ⟨true, z0, z0, 0, [], z0, []⟩) else none)
  else if o.k = 2 then (if livesS l then (if gtB o.rev (modS l) then some (endedS l o.rev, ⟨true, z0, z0, 0, [], z0, []⟩) else none) else some (l, ⟨false, z0, z0, 0, [], z0, []⟩))
  else if o.k = 5 then some (l, match holdsS o.t l with | none => ⟨false, z0, z0, 0, [], z0, []⟩ | some v => ⟨true, v.rev, v.cr, v.ver, [], z0, []⟩)
  else if o.k = 6 then some (l, ⟨false, z0, z0, 0, sinceS o.t (l.map (·.rev)), z0, []⟩)
  else if o.k = 7 then some (compS o.t l, ⟨false, z0, z0, 0, keptS o.t true l, z0, []⟩)
  else if o.k = 8 then some (l, ⟨false, z0, z0, 0, keptS o.t false l, z0, []⟩)
  else some (l, ⟨false, z0, z0, 0, [], z0, []⟩)
def ixRev (r : Rv) : Bool := decide (1 ≤ r.1) && decide (0 ≤ r.2)
/-- An operation that is asked of changes that there are: what is left, and the answer with the lives. -/
def kyOne (l : List Vs) (first : Bool) (o : KO) : Option (List Vs × An) :=
  if o.k = 3 ∨ o.k = 4 ∨ o.k < 1 ∨ 8 < o.k then none
  else if (first = true ∧ l = [] ∧ o.k ≠ 1) ∨ ((o.k = 1 ∨ o.k = 2) ∧ ixRev o.rev = false) then none
  else if o.k = 1 ∧ l ≠ [] ∧ livesS l = false ∧ (modS l).1 = o.rev.1 then none
  else match kyDo l o with
    | none => none
    | some (m, a) => if m = [] then none else some (m, { a with md := modS m, G := dumpG m })
theorem Inv.gok {md : Rv} {G : List Gn} {N : Nat} (I : Inv md G N) (hN : N < 1000) : GOk G := by
  refine ⟨by have := I.glen; omega, fun x hx => ⟨by have := I.ver x hx; omega, ?_⟩⟩
  have h1 := I.len
  have : x.2.2.length ≤ (G.flatMap (·.2.2)).length := by
    obtain ⟨i, hi⟩ := List.getElem?_of_mem hx
    obtain ⟨s, t, rfl⟩ := List.append_of_mem hx
    simp only [List.flatMap_append, List.flatMap_cons, List.length_append]
    omega
  omega
theorem Inv.asks {md : Rv} {G : List Gn} {N : Nat} (I : Inv md G N) (hN : N < 1000) : Asks G := by
  refine ⟨I.ne, ?_, ?_, by have := I.len; omega, fun x hx r hr => by have := (I.pos x hx r hr).1; omega⟩
  · intro h
    have h2 : (versG G).length = 0 := by
      rw [versG_len]
      have : G.flatMap (·.2.2) = (G.map (·.2.2)).flatten := by rw [List.flatMap_def]
      rw [this, h]; rfl
    exact I.vne (List.eq_nil_of_length_eq_zero h2)
  · intro i x hx hi
    obtain ⟨G0, g, rfl, h1, _⟩ := shape_of I.lives I.waits I.ne
    have hi2 : i < G0.length := by simp at hi; omega
    rw [List.getElem?_append_left hi2] at hx
    exact h1 x (List.mem_of_getElem? hx)
theorem step_law {md : Rv} {G : List Gn} {N : Nat} {o : KO} {m : List Vs} {a : An} {f : Bool} (I : Inv md G N) (hN : N < 900) (h : kyOne (versG G) f o = some (m, a)) :
    KPre md G o ∧ kop md G o = a ∧ Inv a.md a.G (N + 1) ∧ versG a.G = m := by
  unfold kyOne at h
  split at h
  · cases h
  rename_i hk
  split at h
  · cases h
  rename_i hf
  split at h
  · cases h
  rename_i hn
  have hgok := I.gok (by omega)
  have hasks := I.asks (by omega)
  have hmd := I.md
  have same : ∀ b : An, kop md G o = { b with md := md, G := G } → (versG G ≠ []) → (o.k ≠ 1 ∧ o.k ≠ 2) → { b with md := modS (versG G), G := dumpG (versG G) } = a → versG G = m → KPre md G o ∧ kop md G o = a ∧ Inv a.md a.G (N + 1) ∧ versG a.G = m := by
    intro b hb hne hk12 ha hm
    have hd := dump_law (shape_of I.lives I.waits I.ne) hne
    rw [hd, ← hmd] at ha
    subst ha
    refine ⟨⟨hgok, by rw [hb]; exact hgok, fun h => absurd h hk12.1, fun h => absurd h hk12.2, fun h => by omega, fun _ => hasks⟩, hb, I.mono (by omega), hm⟩
  by_cases h1 : o.k = 1
  · unfold kyDo at h
    rw [if_pos h1] at h
    have hr : 1 ≤ o.rev.1 ∧ 0 ≤ o.rev.2 := by
      have : ¬ ixRev o.rev = false := fun h9 => hf (.inr ⟨.inl h1, h9⟩)
      unfold ixRev at this
      simpa using this
    by_cases hg : gtB o.rev (modS (versG G)) = true
    · rw [if_pos hg] at h
      dsimp only at h
      have hgt : gtB o.rev md = true := by rw [hmd]; exact hg
      obtain ⟨I2, hv⟩ := inv_put I hr hgt (fun hl he => hn ⟨h1, I.vne, hl, by rw [← hmd]; exact he⟩)
      have ek : kop md G o = ⟨true, z0, z0, 0, [], o.rev, putGs G o.rev⟩ := by unfold kop; rw [if_pos h1]
      split at h
      · cases h
      cases h
      have hd := dump_law (shape_of I2.lives I2.waits I2.ne) I2.vne
      rw [hv] at hd
      have hm2 : o.rev = modS (writtenS (versG G) o.rev) := by rw [← hv]; exact I2.md
      refine ⟨⟨hgok, by rw [ek]; exact I2.gok (by omega), fun _ => hgt, fun h => by omega, fun h => by omega, fun h => by omega⟩, ?_, ?_, ?_⟩
      · rw [ek]; simp only [hd, ← hm2]
      · simp only [hd, ← hm2]; exact I2
      · simp only [hd]; exact hv
    · rw [if_neg hg] at h; cases h
  by_cases h2 : o.k = 2
  · unfold kyDo at h
    rw [if_neg h1, if_pos h2] at h
    have hr : 1 ≤ o.rev.1 ∧ 0 ≤ o.rev.2 := by
      have : ¬ ixRev o.rev = false := fun h9 => hf (.inr ⟨.inr h2, h9⟩)
      unfold ixRev at this
      simpa using this
    obtain ⟨G0, g, hG0, hs1, hs2⟩ := shape_of I.lives I.waits I.ne
    have hlv : livesS (versG G) = !decide ((G.getLastD g0).2.2 = []) := by
      rw [hG0, lives_shape hs1]; simp
    by_cases hl : livesS (versG G) = true
    · rw [if_pos hl] at h
      have hlast : ¬ (G.getLastD g0).2.2 = [] := by rw [hl] at hlv; simpa using hlv
      by_cases hg : gtB o.rev (modS (versG G)) = true
      · rw [if_pos hg] at h
        dsimp only at h
        have hgt : gtB o.rev md = true := by rw [hmd]; exact hg
        obtain ⟨I2, hv⟩ := inv_tomb I hr hgt hl
        have ek : kop md G o = ⟨true, z0, z0, 0, [], o.rev, putGs G o.rev ++ [g0]⟩ := by unfold kop; rw [if_neg h1, if_pos h2, if_neg hlast]
        split at h
        · cases h
        cases h
        have hd := dump_law (shape_of I2.lives I2.waits I2.ne) I2.vne
        rw [hv] at hd
        have hm2 : o.rev = modS (endedS (versG G) o.rev) := by rw [← hv]; exact I2.md
        refine ⟨⟨hgok, by rw [ek]; exact I2.gok (by omega), fun h => by omega, fun _ _ => hgt, fun h => by omega, fun _ => hasks⟩, ?_, ?_, ?_⟩
        · rw [ek]; simp only [hd, ← hm2]
        · simp only [hd, ← hm2]; exact I2
        · simp only [hd]; exact hv
      · rw [if_neg hg] at h; cases h
    · rw [if_neg hl] at h
      have hlast : (G.getLastD g0).2.2 = [] := by
        have : livesS (versG G) = false := by simpa using hl
        rw [this] at hlv
        simpa using hlv.symm
      dsimp only at h
      rw [if_neg I.vne] at h
      cases h
      have hd := dump_law (shape_of I.lives I.waits I.ne) I.vne
      have ek : kop md G o = ⟨false, z0, z0, 0, [], md, G⟩ := by unfold kop; rw [if_neg h1, if_pos h2, if_pos hlast]
      refine ⟨⟨hgok, by rw [ek]; exact hgok, fun h => by omega, fun _ h => absurd hlast h, fun h => by omega, fun _ => hasks⟩, ?_, ?_, ?_⟩
      · rw [ek]; simp only [hd, ← hmd]
      · simp only [hd, ← hmd]; exact I.mono (by omega)
      · simp only [hd]
  have h3 : ¬ o.k = 3 := fun h => hk (.inl h)
  have h4 : ¬ o.k = 4 := fun h => hk (.inr (.inl h))
  unfold kyDo at h
  rw [if_neg h1, if_neg h2] at h
  by_cases h5 : o.k = 5
  · rw [if_pos h5] at h
    dsimp only at h
    rw [if_neg I.vne] at h
    simp only [Option.some.injEq, Prod.mk.injEq] at h
    refine same _ ?_ I.vne ⟨h1, h2⟩ h.2 h.1
    unfold kop
    rw [if_neg h1, if_neg h2, if_neg h3, if_neg h4, if_pos h5, get_law (lives_pair I.lives).2]
    cases holdsS o.t (versG G) <;> rfl
  rw [if_neg h5] at h
  by_cases h6 : o.k = 6
  · rw [if_pos h6] at h
    dsimp only at h
    rw [if_neg I.vne] at h
    simp only [Option.some.injEq, Prod.mk.injEq] at h
    refine same ⟨false, z0, z0, 0, sinceS o.t ((versG G).map (·.rev)), z0, []⟩ ?_ I.vne ⟨h1, h2⟩ h.2 h.1
    unfold kop
    rw [if_neg h1, if_neg h2, if_neg h3, if_neg h4, if_neg h5, if_pos h6, versG_map, since_law I.lives (fun x hx => by
      obtain ⟨g, hg, hx2⟩ := List.mem_flatMap.1 hx
      have := I.pos g hg x hx2
      exact ⟨this.2, by omega⟩) I.cr]
  rw [if_neg h6] at h
  by_cases h7 : o.k = 7
  · rw [if_pos h7] at h
    dsimp only at h
    split at h
    · cases h
    rename_i hne
    simp only [Option.some.injEq, Prod.mk.injEq] at h
    obtain ⟨rfl, rfl⟩ := h
    obtain ⟨I2, hv⟩ := inv_compact I hne
    have hd := dump_law (shape_of I2.lives I2.waits I2.ne) I2.vne
    rw [hv] at hd
    have hm2 : md = modS (compS o.t (versG G)) := by rw [← hv]; exact I2.md
    have ek : kop md G o = ⟨false, z0, z0, 0, keptS o.t true (versG G), md, compactG o.t G⟩ := by
      unfold kop
      rw [if_neg h1, if_neg h2, if_neg h3, if_neg h4, if_neg h5, if_neg h6, if_pos h7, cpM_eq I.ne, kept_law I.lives I.ne]
    refine ⟨⟨hgok, by rw [ek]; exact I2.gok (by omega), fun h => by omega, fun h => by omega, fun h => by omega, fun _ => hasks⟩, ?_, ?_, ?_⟩
    · rw [ek]; simp only [hd, ← hm2]
    · simp only [hd, ← hm2]; exact I2.mono (by omega)
    · simp only [hd]; exact hv
  rw [if_neg h7] at h
  by_cases h8 : o.k = 8
  · rw [if_pos h8] at h
    dsimp only at h
    rw [if_neg I.vne] at h
    simp only [Option.some.injEq, Prod.mk.injEq] at h
    refine same ⟨false, z0, z0, 0, keptS o.t false (versG G), z0, []⟩ ?_ I.vne ⟨h1, h2⟩ h.2 h.1
    unfold kop
    rw [if_neg h1, if_neg h2, if_neg h3, if_neg h4, if_neg h5, if_neg h6, if_neg h7, if_pos h8, keepM_eq I.ne, kept_law I.lives I.ne]
  · exfalso; omega
end Go.Proofs.Ytpjnmdeeoafclaa
