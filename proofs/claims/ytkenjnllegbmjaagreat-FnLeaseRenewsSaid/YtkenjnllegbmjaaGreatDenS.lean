/- A plain reading of Go functions, proved to be what they do; no condition. -/
/- The orders that a region's edges allow, and the closed check that a few of them stand for all. -/
import Derived.Test.YtkenjnllegbmjaaGreatDenR
set_option linter.unusedVariables false
set_option linter.unusedSimpArgs false
namespace Go.Den
open Go

theorem mem_ready {md : Region.Mode} {ops : Array Oper} {listed : Array Bool} {i : Nat} : i ∈ Region.ready md ops listed ↔
    i < ops.size ∧ listed.getD i true = false ∧ ∃ o, ops[i]? = some o ∧ ∀ e ∈ o.after, Region.binds md e = true → listed.getD e.on false = true := by
  unfold Region.ready
  simp only [List.mem_filter, List.mem_range, Bool.and_eq_true, Bool.not_eq_true']
  constructor
  · rintro ⟨h1, h2, h3⟩
    refine ⟨h1, h2, ops[i], by simp [h1], fun e he hb => ?_⟩
    simp [h1] at h3
    obtain ⟨j, hj, rfl⟩ := Array.mem_iff_getElem.1 he
    have := h3 j hj
    simp [hb] at this
    simpa using this
  · rintro ⟨h1, h2, o, ho, h3⟩
    refine ⟨h1, h2, ?_⟩
    rw [ho]
    simp only [Option.map_some, Option.getD_some, Array.all_eq_true_iff_forall_mem, Bool.or_eq_true, Bool.not_eq_true']
    intro e he
    cases hb : Region.binds md e with
    | false => exact .inl rfl
    | true => exact .inr (h3 e he hb)

theorem getD_set {l : Array Bool} {i j : Nat} {d : Bool} (hi : i < l.size) : (l.setIfInBounds i true).getD j d = if i = j then true else l.getD j d := by
  simp only [Array.getD_eq_getD_getElem?]
  by_cases h : i = j
  · subst h; simp [hi]
  · simp [h, Array.getElem?_setIfInBounds_ne h]
theorem lt_of_getD {l : Array Bool} {i : Nat} (h : l.getD i true = false) : i < l.size := by
  rcases Nat.lt_or_ge i l.size with h1 | h1
  · exact h1
  · simp [Array.getD_eq_getD_getElem?, Array.getElem?_eq_none h1] at h
theorem getD_or {l : Array Bool} {i : Nat} (h : l.getD i true = false) : l.getD i false = false := by
  have := lt_of_getD h
  simp only [Array.getD_eq_getD_getElem?] at h ⊢
  simp [this] at h ⊢
  exact h

structure Listing (md : Region.Mode) (ops : Array Oper) (listed : Array Bool) (l : List Nat) : Prop where
  fresh : ∀ i ∈ l, listed.getD i true = false
  nodup : l.Nodup
  edges : ∀ l1 x l2, l = l1 ++ x :: l2 → ∀ o, ops[x]? = some o → ∀ e ∈ o.after, Region.binds md e = true → listed.getD e.on false = true ∨ e.on ∈ l1

theorem go_listing (md : Region.Mode) (ops : Array Oper) : ∀ (fuel t : Nat) (listed : Array Bool), Listing md ops listed (Region.linearise.go md ops fuel t listed []) := by
  intro fuel
  induction fuel with
  | zero => intro t listed; exact ⟨by simp [Region.linearise.go], by simp [Region.linearise.go], by simp [Region.linearise.go]⟩
  | succ fuel ih =>
    intro t listed
    simp only [Region.linearise.go]
    change Listing md ops listed (match (Region.ready md ops listed)[t % (Region.ready md ops listed).length]? with
      | some i => Region.linearise.go md ops fuel (t / (Region.ready md ops listed).length) (listed.setIfInBounds i true) [i]
      | none => [].reverse)
    cases hi : (Region.ready md ops listed)[t % (Region.ready md ops listed).length]? with
    | none => exact ⟨by simp, by simp, by simp⟩
    | some i =>
      dsimp only
      rw [linearise_go_acc, List.reverse_singleton, List.singleton_append]
      obtain ⟨f, n, e⟩ := ih (t / (Region.ready md ops listed).length) (listed.setIfInBounds i true)
      obtain ⟨h1, h2, o, ho, h3⟩ := mem_ready.1 (List.mem_of_getElem? hi)
      have hlt := lt_of_getD h2
      refine ⟨?_, ?_, ?_⟩
      · intro j hj
        rcases List.mem_cons.1 hj with rfl | hj
        · exact h2
        · have := f j hj
          rw [getD_set hlt] at this
          split at this
          · cases this
          · exact this
      · refine List.nodup_cons.2 ⟨fun hm => ?_, n⟩
        have := f i hm
        rw [getD_set hlt] at this
        simp at this
      · intro l1 x l2 hl o' ho' ed hed hb
        cases l1 with
        | nil =>
          injection hl with hx hl
          subst hx
          rw [ho] at ho'
          injection ho' with ho'
          subst ho'
          exact .inl (h3 ed hed hb)
        | cons y l1 =>
          injection hl with hy hl
          subst hy
          rcases e l1 x l2 hl o' ho' ed hed hb with h | h
          · rw [getD_set hlt] at h
            split at h
            · rename_i he; exact .inr (he ▸ List.mem_cons_self ..)
            · exact .inl h
          · exact .inr (List.mem_cons_of_mem _ h)

def unlisted (ops : Array Oper) (listed : Array Bool) : List Nat := (List.range ops.size).filter fun i => !listed.getD i true
theorem mem_unlisted {ops : Array Oper} {listed : Array Bool} {i : Nat} : i ∈ unlisted ops listed ↔ i < ops.size ∧ listed.getD i true = false := by
  simp [unlisted]
theorem filter_length_lt {α : Type} (p q : α → Bool) (x : α) : ∀ (l : List α), (∀ y, q y = true → p y = true) → x ∈ l → p x = true → q x = false → (l.filter q).length < (l.filter p).length := by
  intro l
  induction l with
  | nil => intro _ h; cases h
  | cons y l ih =>
    intro hpq hx hp hq
    have hle : ∀ l : List α, (l.filter q).length ≤ (l.filter p).length := by
      intro l; induction l with
      | nil => simp
      | cons z l ih2 =>
        simp only [List.filter_cons]
        by_cases hz : q z = true
        · simp [hz, hpq z hz, ih2]
        · by_cases hz' : p z = true
          · simp [hz, hz']; omega
          · simp [hz, hz', ih2]
    simp only [List.filter_cons]
    rcases List.mem_cons.1 hx with rfl | hx
    · simp [hp, hq]; have := hle l; omega
    · have := ih hpq hx hp hq
      by_cases hz : q y = true
      · simp [hz, hpq y hz, this]
      · by_cases hz' : p y = true
        · simp [hz, hz']; omega
        · simp [hz, hz', this]

theorem go_complete {md : Region.Mode} {ops : Array Oper} (hb : ∀ (i : Nat) o, ops[i]? = some o → ∀ e ∈ o.after, Region.binds md e = true → e.on < i) :
    ∀ (fuel t : Nat) (listed : Array Bool), listed.size = ops.size → (unlisted ops listed).length ≤ fuel → ∀ i ∈ unlisted ops listed, i ∈ Region.linearise.go md ops fuel t listed [] := by
  intro fuel
  induction fuel with
  | zero =>
    intro t listed hs h i hi
    have : unlisted ops listed = [] := List.eq_nil_of_length_eq_zero (by omega)
    rw [this] at hi; cases hi
  | succ fuel ih =>
    intro t listed hs h i hi
    -- the least unlisted one is ready
    have hne : Region.ready md ops listed ≠ [] := by
      have key : ∀ k i, i ≤ k → i ∈ unlisted ops listed → ∃ j, j ∈ Region.ready md ops listed := by
        intro k
        induction k with
        | zero =>
          intro i hk hi
          obtain ⟨h1, h2⟩ := mem_unlisted.1 hi
          refine ⟨i, mem_ready.2 ⟨h1, h2, ops[i], by simp [h1], fun e he hbi => ?_⟩⟩
          have := hb i ops[i] (by simp [h1]) e he hbi
          omega
        | succ k ihk =>
          intro i hk hi
          obtain ⟨h1, h2⟩ := mem_unlisted.1 hi
          by_cases hr : i ∈ Region.ready md ops listed
          · exact ⟨i, hr⟩
          · have : ∃ e, e ∈ ops[i].after ∧ Region.binds md e = true ∧ listed.getD e.on false = false := by
              refine Classical.byContradiction fun hn => hr (mem_ready.2 ⟨h1, h2, ops[i], by simp [h1], fun e he hbi => ?_⟩)
              cases hc : listed.getD e.on false with
              | true => rfl
              | false => exact (hn ⟨e, he, hbi, hc⟩).elim
            obtain ⟨e, he, hbi, hc⟩ := this
            have hlt := hb i ops[i] (by simp [h1]) e he hbi
            refine ihk e.on (by omega) (mem_unlisted.2 ⟨by omega, ?_⟩)
            simp only [Array.getD_eq_getD_getElem?] at hc ⊢
            have : e.on < listed.size := by omega
            simp [this] at hc ⊢
            exact hc
      obtain ⟨j, hj⟩ := key i i (Nat.le_refl _) hi
      intro hnil
      rw [hnil] at hj
      cases hj
    simp only [Region.linearise.go]
    change i ∈ (match (Region.ready md ops listed)[t % (Region.ready md ops listed).length]? with
      | some i => Region.linearise.go md ops fuel (t / (Region.ready md ops listed).length) (listed.setIfInBounds i true) [i]
      | none => [].reverse)
    have hpos : 0 < (Region.ready md ops listed).length := List.length_pos_iff.2 hne
    have hlt := Nat.mod_lt t hpos
    rw [List.getElem?_eq_getElem hlt]
    dsimp only
    generalize hj : (Region.ready md ops listed)[t % (Region.ready md ops listed).length] = j
    have hjm : j ∈ Region.ready md ops listed := hj ▸ List.getElem_mem hlt
    obtain ⟨h1, h2, _⟩ := mem_ready.1 hjm
    have hjl := lt_of_getD h2
    rw [linearise_go_acc, List.reverse_singleton, List.singleton_append]
    by_cases hij : i = j
    · subst hij; exact List.mem_cons_self ..
    · refine List.mem_cons_of_mem _ (ih _ _ (by simpa using hs) ?_ i ?_)
      · have : (unlisted ops (listed.setIfInBounds j true)).length < (unlisted ops listed).length := by
          refine filter_length_lt _ _ j _ ?_ (List.mem_range.2 h1) (by simp [h2]) (by rw [getD_set hjl]; simp)
          intro y hy
          rw [getD_set hjl] at hy
          split at hy
          · simp at hy
          · exact hy
        omega
      · obtain ⟨h3, h4⟩ := mem_unlisted.1 hi
        refine mem_unlisted.2 ⟨h3, ?_⟩
        rw [getD_set hjl, if_neg (Ne.symm hij), h4]

/-- A schedule: each operation once, none ahead of what its edges name. -/
structure Schedule (ops : Array Oper) (σ : List Nat) : Prop where
  perm : σ.Perm (List.range ops.size)
  edges : ∀ x o, ops[x]? = some o → ∀ e ∈ o.after, Region.binds .any e = true → ¬ List.Sublist [x, e.on] σ

def edgesBack (ops : Array Oper) : Bool := (List.range ops.size).all fun i => match ops[i]? with | some o => o.after.toList.all fun e => !Region.binds .any e || e.on < i | none => true
theorem edgesBack_spec {ops : Array Oper} (h : edgesBack ops = true) (i : Nat) (o : Oper) (ho : ops[i]? = some o) (e : Edge) (he : e ∈ o.after) (hb : Region.binds .any e = true) : e.on < i := by
  unfold edgesBack at h
  rw [List.all_eq_true] at h
  have hi : i < ops.size := by
    rcases Nat.lt_or_ge i ops.size with h1 | h1
    · exact h1
    · rw [Array.getElem?_eq_none h1] at ho; cases ho
  have := h i (List.mem_range.2 hi)
  rw [ho] at this
  dsimp only at this
  rw [List.all_eq_true] at this
  have := this e (Array.mem_toList_iff.2 he)
  simpa [hb] using this

theorem schedule_any {ops : Array Oper} (h : edgesBack ops = true) (t : Nat) : Schedule ops (Region.linearise .any ops t) := by
  unfold Region.linearise
  have hl := go_listing .any ops ops.size t (Array.replicate ops.size false)
  have hc := go_complete (md := .any) (ops := ops) (fun i o ho e he hb => edgesBack_spec h i o ho e he hb) ops.size t (Array.replicate ops.size false) (by simp)
    (by unfold unlisted; exact Nat.le_trans (List.length_filter_le _ _) (by simp))
  generalize Region.linearise.go .any ops ops.size t (Array.replicate ops.size false) [] = l at hl hc
  obtain ⟨f, n, ed⟩ := hl
  refine ⟨?_, ?_⟩
  · refine (List.perm_ext_iff_of_nodup n List.nodup_range).2 fun i => ⟨fun hi => ?_, fun hi => ?_⟩
    · have := lt_of_getD (f i hi); simpa using this
    · have hi' := List.mem_range.1 hi
      exact hc i (mem_unlisted.2 ⟨hi', by simp [Array.getD_eq_getD_getElem?, hi']⟩)
  · intro x o ho e he hb hsub
    obtain ⟨l1, l2, rfl, h1, h2⟩ : ∃ l1 l2, l = l1 ++ x :: l2 ∧ e.on ∈ l2 ∧ True := by
      have : List.Sublist ([x] ++ [e.on]) l := hsub
      obtain ⟨r1, r2, rfl, h1, h2⟩ := List.append_sublist_iff.1 this
      have hx : x ∈ r1 := List.singleton_sublist.1 h1
      obtain ⟨s, u, rfl⟩ := List.append_of_mem hx
      exact ⟨s, u ++ r2, by simp, List.mem_append.2 (.inr (List.singleton_sublist.1 h2)), trivial⟩
    rcases ed l1 x l2 rfl o ho e he hb with h | h
    · have := f e.on (List.mem_append.2 (.inr (List.mem_cons_of_mem _ h1)))
      rw [getD_or this] at h
      cases h
    · have := List.nodup_append.1 n
      exact this.2.2 _ h _ (List.mem_cons_of_mem _ h1) rfl

/-! ### The closed check -/
def edgeMask (acc : List Nat) : List Edge → Nat
  | [] => 0
  | e :: es => (if Region.binds .any e then 2 ^ e.on ||| acc.getD e.on 0 else 0) ||| edgeMask acc es
def masks : List Oper → List Nat → List Nat
  | [], acc => acc
  | o :: r, acc => masks r (acc ++ [edgeMask acc o.after.toList])
theorem edgeMask_spec {acc : List Nat} {y : Nat} : ∀ (es : List Edge), (edgeMask acc es).testBit y = true → ∃ e ∈ es, Region.binds .any e = true ∧ (e.on = y ∨ (acc.getD e.on 0).testBit y = true) := by
  intro es
  induction es with
  | nil => intro h; simp [edgeMask] at h
  | cons e es ih =>
    intro h
    rw [edgeMask, Nat.testBit_or, Bool.or_eq_true] at h
    rcases h with h | h
    · split at h
      · rename_i hb
        rw [Nat.testBit_or, Bool.or_eq_true] at h
        refine ⟨e, List.mem_cons_self .., hb, h.imp (fun h => ?_) id⟩
        rw [Nat.testBit_two_pow] at h
        simpa using h
      · simp at h
    · obtain ⟨e', h1, h2⟩ := ih h
      exact ⟨e', List.mem_cons_of_mem _ h1, h2⟩
theorem masks_spec {ops : List Oper} {σ : List Nat} (hσ : ∀ x o, ops[x]? = some o → ∀ e ∈ o.after, Region.binds .any e = true → ¬ List.Sublist [x, e.on] σ)
    (hm : ∀ x, x < ops.length → x ∈ σ) (hlt : ∀ x o, ops[x]? = some o → ∀ e ∈ o.after, Region.binds .any e = true → e.on < x) :
    ∀ (r : List Oper) (acc : List Nat), ops = ops.take acc.length ++ r → acc.length ≤ ops.length → (∀ x y, (acc.getD x 0).testBit y = true → y < x ∧ ¬ List.Sublist [x, y] σ) →
    ∀ x y, ((masks r acc).getD x 0).testBit y = true → y < x ∧ ¬ List.Sublist [x, y] σ := by
  intro r
  induction r with
  | nil => intro acc _ _ h; exact h
  | cons o r ih =>
    intro acc hops hle h
    have hlen : acc.length < ops.length := by
      have := congrArg List.length hops
      simp at this
      omega
    have ho : ops[acc.length]? = some o := by
      rw [hops, List.getElem?_append_right (by simp; omega)]
      simp [Nat.min_eq_left hle]
    refine ih (acc ++ [edgeMask acc o.after.toList]) ?_ (by simp; omega) ?_
    · simp only [List.length_append, List.length_cons, List.length_nil, Nat.zero_add]
      rw [List.take_add_one, ho]
      simp only [Option.toList_some, List.append_assoc, List.singleton_append]
      exact hops
    · intro x y hb
      rw [List.getD_eq_getElem?_getD] at hb
      rcases Nat.lt_trichotomy x acc.length with hx | hx | hx
      · rw [List.getElem?_append_left hx, ← List.getD_eq_getElem?_getD] at hb
        exact h x y hb
      · subst hx
        rw [List.getElem?_append_right (Nat.le_refl _)] at hb
        simp only [Nat.sub_self, List.getElem?_cons_zero, Option.getD_some] at hb
        obtain ⟨e, he, hbi, hor⟩ := edgeMask_spec _ hb
        have he' : e ∈ o.after := Array.mem_toList_iff.1 he
        have hno := hσ acc.length o ho e he' hbi
        have hl := hlt acc.length o ho e he' hbi
        rcases hor with rfl | hor
        · exact ⟨hl, hno⟩
        · obtain ⟨h1, h2⟩ := h e.on y hor
          refine ⟨by omega, fun hs => ?_⟩
          have hmem := hm e.on (by omega)
          -- e.on stands somewhere in σ: ahead of x or behind; both are barred
          have hs' : List.Sublist ([acc.length] ++ [y]) σ := hs
          obtain ⟨r1, r2, rfl, g1, g2⟩ := List.append_sublist_iff.1 hs'
          rcases List.mem_append.1 hmem with hz | hz
          · exact h2 ((List.singleton_sublist.2 hz).append g2)
          · exact hno (g1.append (List.singleton_sublist.2 hz))
      · rw [List.getElem?_eq_none (by simp; omega)] at hb
        simp at hb

def pairsOk (ok : Nat → Nat → Bool) : List Nat → Bool
  | [] => true
  | y :: l => l.all (ok y) && pairsOk ok l
theorem pairsOk_spec {ok : Nat → Nat → Bool} : ∀ (l : List Nat), pairsOk ok l = true → ∀ a b, List.Sublist [a, b] l → ok a b = true := by
  intro l
  induction l with
  | nil => intro _ a b h; cases h
  | cons y l ih =>
    intro h a b hs
    simp only [pairsOk, Bool.and_eq_true, List.all_eq_true] at h
    cases hs with
    | cons _ hs => exact ih h.2 a b hs
    | cons_cons _ hs => exact h.1 b (List.singleton_sublist.1 hs)

def aheadB (l : List Nat) (a b : Nat) : Bool := l.idxOf a < l.idxOf b
def signs (C : List (Nat × Nat)) (l : List Nat) : List Bool := C.map fun p => aheadB l p.1 p.2
def allSigns : Nat → List (List Bool)
  | 0 => [[]]
  | n + 1 => (allSigns n).flatMap fun s => [true :: s, false :: s]
theorem mem_allSigns : ∀ (s : List Bool), s ∈ allSigns s.length := by
  intro s
  induction s with
  | nil => simp [allSigns]
  | cons b s ih =>
    simp only [List.length_cons, allSigns, List.mem_flatMap]
    exact ⟨s, ih, by cases b <;> simp⟩
/-- Pairs laid out by their signs. -/
def laidBy : List (Nat × Nat) → List Bool → List (Nat × Nat)
  | p :: C, b :: s => (if b then p else (p.2, p.1)) :: laidBy C s
  | _, _ => []
def linkB (ms : List Nat) (a b : Nat) : Bool := a == b || (ms.getD b 0).testBit a
/-- The pairs' signs and the edges, one or two steps, say that y is ahead of x. -/
def viaB (n : Nat) (ms : List Nat) (C : List (Nat × Nat)) (s : List Bool) (y x : Nat) : Bool :=
  C.all (fun p => p.1 != p.2 && decide (p.1 < n) && decide (p.2 < n)) && decide (y < n) && decide (x < n) &&
  (laidBy C s).any fun q => linkB ms y q.1 && (linkB ms q.2 x || (laidBy C s).any fun r => linkB ms q.2 r.1 && linkB ms r.2 x)
/-- An order serves: two operations stand in it in an order that counts only if their edges, or the pairs that are told, say so. -/
def tauOk (ops : Array Oper) (kd : Nat → Kind) (ms : List Nat) (C : List (Nat × Nat)) (τ : List Nat) : Bool :=
  τ.isPerm (List.range ops.size) && pairsOk (fun y x => (ms.getD x 0).testBit y || C.contains (y, x) || C.contains (x, y) || indepI ops kd y x || viaB ops.size ms C (signs C τ) y x) τ
/-- No order has these signs: two or three pairs, with the edges, make a ring. -/
def noSigns (n : Nat) (ms : List Nat) (C : List (Nat × Nat)) (s : List Bool) : Bool :=
  C.all (fun p => p.1 != p.2 && decide (p.1 < n) && decide (p.2 < n)) &&
  (laidBy C s).any fun p => (laidBy C s).any fun q => linkB ms p.2 q.1 && (linkB ms q.2 p.1 || (laidBy C s).any fun r => linkB ms q.2 r.1 && linkB ms r.2 p.1)
def regionOk (ops : Array Oper) (kd : Nat → Kind) (C : List (Nat × Nat)) (τs : List (List Nat)) : Bool :=
  edgesBack ops && τs.all (tauOk ops kd (masks ops.toList []) C) && (allSigns C.length).all fun s => (τs.any fun τ => signs C τ == s) || noSigns ops.size (masks ops.toList []) C s

theorem idxOf_sublist {a b : Nat} {l : List Nat} (hn : l.Nodup) (h : List.Sublist [a, b] l) : l.idxOf a < l.idxOf b := by
  induction l with
  | nil => cases h
  | cons x l ih =>
    have hn' := List.nodup_cons.1 hn
    cases h with
    | cons _ h =>
      have ha : a ∈ l := h.subset (by simp)
      have hb : b ∈ l := h.subset (by simp)
      have h1 : x ≠ a := fun e => hn'.1 (e ▸ ha)
      have h2 : x ≠ b := fun e => hn'.1 (e ▸ hb)
      rw [List.idxOf_cons, List.idxOf_cons, beq_eq_false_iff_ne.2 h1, beq_eq_false_iff_ne.2 h2, cond_false, cond_false]
      have := ih hn'.2 h
      omega
    | cons_cons _ h =>
      have hb : b ∈ l := List.singleton_sublist.1 h
      have h2 : a ≠ b := fun e => hn'.1 (e ▸ hb)
      rw [List.idxOf_cons_self, List.idxOf_cons, beq_eq_false_iff_ne.2 h2, cond_false]
      omega

theorem idxOf_inj {a b : Nat} {l : List Nat} (ha : a ∈ l) (hb : b ∈ l) (h : l.idxOf a = l.idxOf b) : a = b := by
  have h1 := List.idxOf_lt_length_of_mem ha
  have h2 := List.idxOf_lt_length_of_mem hb
  have e1 : l[l.idxOf a]'h1 = a := List.getElem_idxOf h1
  have e2 : l[l.idxOf b]'h2 = b := List.getElem_idxOf h2
  simp only [h] at e1
  exact e1.symm.trans e2
theorem sublist_of_idxOf {a b : Nat} {l : List Nat} (ha : a ∈ l) (hb : b ∈ l) (h : l.idxOf a < l.idxOf b) : List.Sublist [a, b] l := by
  induction l with
  | nil => cases ha
  | cons x l ih =>
    by_cases hxa : x = a
    · subst hxa
      have hne : x ≠ b := by
        rintro rfl
        omega
      rcases List.mem_cons.1 hb with rfl | hb'
      · exact absurd rfl hne
      · exact List.Sublist.cons_cons _ (List.singleton_sublist.2 hb')
    · have ha' : a ∈ l := by
        rcases List.mem_cons.1 ha with h1 | h1
        · exact absurd h1.symm hxa
        · exact h1
      rw [List.idxOf_cons, beq_eq_false_iff_ne.2 hxa, cond_false] at h
      by_cases hxb : x = b
      · subst hxb
        rw [List.idxOf_cons_self] at h
        omega
      · have hb' : b ∈ l := by
          rcases List.mem_cons.1 hb with h1 | h1
          · exact absurd h1.symm hxb
          · exact h1
        rw [List.idxOf_cons, beq_eq_false_iff_ne.2 hxb, cond_false] at h
        exact List.Sublist.cons _ (ih ha' hb' (by omega))
theorem laidBy_spec {n : Nat} {σ : List Nat} (hm : ∀ x, x < n → x ∈ σ) : ∀ (C : List (Nat × Nat)), (∀ p ∈ C, p.1 ≠ p.2 ∧ p.1 < n ∧ p.2 < n) → ∀ q ∈ laidBy C (signs C σ), σ.idxOf q.1 < σ.idxOf q.2 ∧ q.1 < n ∧ q.2 < n := by
  intro C
  induction C with
  | nil => intro _ q hq; simp [laidBy] at hq
  | cons p C ih =>
    intro h q hq
    obtain ⟨h1, h2, h3⟩ := h p (List.mem_cons_self ..)
    simp only [signs, List.map_cons, laidBy, List.mem_cons] at hq
    rcases hq with rfl | hq
    · cases hb : aheadB σ p.1 p.2 with
      | true =>
        simp only [aheadB, decide_eq_true_eq] at hb
        simpa using ⟨hb, h2, h3⟩
      | false =>
        simp only [aheadB, decide_eq_false_iff_not] at hb
        have hne : σ.idxOf p.1 ≠ σ.idxOf p.2 := fun he => h1 (idxOf_inj (hm _ h2) (hm _ h3) he)
        simp only [Bool.false_eq_true, if_false]
        exact ⟨by omega, h3, h2⟩
    · exact ih (fun p hp => h p (List.mem_cons_of_mem _ hp)) q hq
theorem noSigns_spec {n : Nat} {ms : List Nat} {C : List (Nat × Nat)} {σ : List Nat} (hm : ∀ x, x < n → x ∈ σ) (hms : ∀ x y, (ms.getD x 0).testBit y = true → y < x ∧ ¬ List.Sublist [x, y] σ)
    (h : noSigns n ms C (signs C σ) = true) : False := by
  unfold noSigns at h
  rw [Bool.and_eq_true, List.all_eq_true, List.any_eq_true] at h
  obtain ⟨hC, p, hp, h⟩ := h
  rw [List.any_eq_true] at h
  obtain ⟨q, hq, h⟩ := h
  have hC' : ∀ p ∈ C, p.1 ≠ p.2 ∧ p.1 < n ∧ p.2 < n := by
    intro p hp
    have := hC p hp
    simp only [Bool.and_eq_true, bne_iff_ne, decide_eq_true_eq] at this
    exact ⟨this.1.1, this.1.2, this.2⟩
  have L := laidBy_spec hm C hC'
  have link : ∀ a b, a < n → b < n → linkB ms a b = true → σ.idxOf a ≤ σ.idxOf b := by
    intro a b ha hb hl
    simp only [linkB, Bool.or_eq_true, beq_iff_eq] at hl
    rcases hl with rfl | hl
    · exact Nat.le_refl _
    · obtain ⟨_, h2⟩ := hms b a hl
      rcases Nat.lt_or_ge (σ.idxOf b) (σ.idxOf a) with h3 | h3
      · exact absurd (sublist_of_idxOf (hm _ hb) (hm _ ha) h3) h2
      · exact h3
  obtain ⟨p1, p2, p3⟩ := L p hp
  obtain ⟨q1, q2, q3⟩ := L q hq
  simp only [Bool.and_eq_true, Bool.or_eq_true] at h
  have k1 := link _ _ p3 q2 h.1
  rcases h.2 with h2 | h2
  · have k2 := link _ _ q3 p2 h2
    omega
  · rw [List.any_eq_true] at h2
    obtain ⟨r, hr, h2⟩ := h2
    obtain ⟨r1, r2, r3⟩ := L r hr
    simp only [Bool.and_eq_true] at h2
    have k2 := link _ _ q3 r2 h2.1
    have k3 := link _ _ r3 p2 h2.2
    omega

theorem viaB_spec {n : Nat} {ms : List Nat} {C : List (Nat × Nat)} {σ : List Nat} {y x : Nat} (hm : ∀ x, x < n → x ∈ σ) (hms : ∀ x y, (ms.getD x 0).testBit y = true → y < x ∧ ¬ List.Sublist [x, y] σ)
    (h : viaB n ms C (signs C σ) y x = true) : σ.idxOf y < σ.idxOf x := by
  unfold viaB at h
  simp only [Bool.and_eq_true, decide_eq_true_eq] at h
  obtain ⟨⟨⟨hC, hy⟩, hx⟩, h⟩ := h
  rw [List.any_eq_true] at h
  rw [List.all_eq_true] at hC
  obtain ⟨q, hq, h⟩ := h
  have hC' : ∀ p ∈ C, p.1 ≠ p.2 ∧ p.1 < n ∧ p.2 < n := by
    intro p hp
    have := hC p hp
    simp only [Bool.and_eq_true, bne_iff_ne, decide_eq_true_eq] at this
    exact ⟨this.1.1, this.1.2, this.2⟩
  have L := laidBy_spec hm C hC'
  have link : ∀ a b, a < n → b < n → linkB ms a b = true → σ.idxOf a ≤ σ.idxOf b := by
    intro a b ha hb hl
    simp only [linkB, Bool.or_eq_true, beq_iff_eq] at hl
    rcases hl with rfl | hl
    · exact Nat.le_refl _
    · obtain ⟨_, h2⟩ := hms b a hl
      rcases Nat.lt_or_ge (σ.idxOf b) (σ.idxOf a) with h3 | h3
      · exact absurd (sublist_of_idxOf (hm _ hb) (hm _ ha) h3) h2
      · exact h3
  obtain ⟨q1, q2, q3⟩ := L q hq
  rw [Bool.and_eq_true, Bool.or_eq_true] at h
  have k1 := link _ _ hy q2 h.1
  rcases h.2 with h2 | h2
  · have k2 := link _ _ q3 hx h2
    omega
  · rw [List.any_eq_true] at h2
    obtain ⟨r, hr, h2⟩ := h2
    obtain ⟨r1, r2, r3⟩ := L r hr
    simp only [Bool.and_eq_true] at h2
    have k2 := link _ _ q3 r2 h2.1
    have k3 := link _ _ r3 hx h2.2
    omega
theorem regionOk_run {P : Program} {ops : Array Oper} {kd : Nat → Kind} {C : List (Nat × Nat)} {τs : List (List Nat)} (h : regionOk ops kd C τs = true) {ρ : Env} {H : Heap} {K : Env → Heap → Prop} {Q : List PanicEntry → Heap → Prop}
    (hrun : ∀ τ ∈ τs, runK P ops kd τ ρ H K Q) (t : Nat) : runK P ops kd (Region.linearise .any ops t) ρ H K Q := by
  unfold regionOk at h
  simp only [Bool.and_eq_true, List.all_eq_true] at h
  obtain ⟨⟨hb, hτ⟩, hs⟩ := h
  have hsch := schedule_any hb t
  generalize Region.linearise .any ops t = σ at hsch ⊢
  have hnσ : σ.Nodup := hsch.perm.nodup_iff.2 List.nodup_range
  have := hs (signs C σ) (by have := mem_allSigns (signs C σ); simpa [signs] using this)
  have hmask : ∀ x y, ((masks ops.toList []).getD x 0).testBit y = true → y < x ∧ ¬ List.Sublist [x, y] σ := by
    refine masks_spec (ops := ops.toList) (σ := σ) (fun x o ho => hsch.edges x o (by simpa using ho)) (fun x hx => hsch.perm.mem_iff.2 (List.mem_range.2 (by simpa using hx)))
      (fun x o ho => edgesBack_spec hb x o (by simpa using ho)) ops.toList [] (by simp) (by simp) (by simp)
  rw [Bool.or_eq_true] at this
  rcases this with this | this
  case inr => exact (noSigns_spec (fun x hx => hsch.perm.mem_iff.2 (List.mem_range.2 hx)) hmask this).elim
  rw [List.any_eq_true] at this
  obtain ⟨τ, hm, hsig⟩ := this
  have hsig' : signs C τ = signs C σ := by simpa using hsig
  have hok := hτ τ hm
  unfold tauOk at hok
  rw [Bool.and_eq_true] at hok
  have hpτ : τ.Perm (List.range ops.size) := List.isPerm_iff.1 hok.1
  have hnτ : τ.Nodup := hpτ.nodup_iff.2 List.nodup_range
  refine runK_perm σ τ (hsch.perm.trans hpτ.symm) hnσ (fun a b hab hba => ?_) (hrun τ hm)
  have hpair := pairsOk_spec _ hok.2 a b hab
  simp only [Bool.or_eq_true] at hpair
  have hconf : ∀ p, p ∈ C → (p = (a, b) ∨ p = (b, a)) → False := by
    intro p hp hpp
    have e : aheadB τ p.1 p.2 = aheadB σ p.1 p.2 := by
      have h1 := (List.map_inj_left (l := C) (f := fun p => aheadB τ p.1 p.2) (g := fun p => aheadB σ p.1 p.2)).1 hsig' p hp
      exact h1
    have h1 := idxOf_sublist hnτ hab
    have h2 := idxOf_sublist hnσ hba
    rcases hpp with rfl | rfl
    · simp only [aheadB] at e
      have e1 : decide (τ.idxOf a < τ.idxOf b) = true := by simp [h1]
      have e2 : decide (σ.idxOf a < σ.idxOf b) = false := by simp; omega
      rw [e1, e2] at e
      cases e
    · simp only [aheadB] at e
      have e1 : decide (τ.idxOf b < τ.idxOf a) = false := by simp; omega
      have e2 : decide (σ.idxOf b < σ.idxOf a) = true := by simp [h2]
      rw [e1, e2] at e
      cases e
  rcases hpair with (((hpair | hpair) | hpair) | hpair) | hpair
  · exact absurd hba (hmask b a hpair).2
  · exact (hconf (a, b) (by simpa using hpair) (.inl rfl)).elim
  · exact (hconf (b, a) (by simpa using hpair) (.inr rfl)).elim
  · exact hpair
  · exfalso
    rw [hsig'] at hpair
    have h1 := viaB_spec (fun x hx => hsch.perm.mem_iff.2 (List.mem_range.2 hx)) hmask hpair
    have h2 := idxOf_sublist hnσ hba
    omega
end Go.Den
