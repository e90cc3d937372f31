/- A plain reading of Go functions, proved to be what they do; no condition. -/
/- Slices as pieces of memory: read, written, grown. -/
import Derived.Test.YtobolifgehagfaaGreatDenI
set_option linter.unusedVariables false
set_option linter.unusedSimpArgs false
namespace Go.Den
open Go
/-- A slice of records of z cells: some cells ahead of it, its records, cells to grow into. -/
def sl {α : Type} (f : α → List Value) (E : TypeId) (z : Nat) (p : Option Addr) (n c : Nat) (xs : List α) : HP := fun h =>
  xs.length = n ∧ (∀ x ∈ xs, (f x).length = z) ∧ n ≤ c ∧
    ((p = none ∧ c = 0) ∨ ∃ r pre sp, p = some ⟨r, List.length pre, none⟩ ∧ (c - n) * z ≤ List.length sp ∧ h r = some (.cells ⟨pre ++ xs.flatMap f ++ sp⟩ E))
section
variable {α : Type} {f : α → List Value} {E : TypeId} {z : Nat} {p : Option Addr} {n c : Nat} {xs : List α} {H H1 : Heap} {l m t : List HP} {k : PH}
theorem flat_len (hz : ∀ x ∈ xs, (f x).length = z) : (xs.flatMap f).length = xs.length * z := by
  induction xs with
  | nil => simp
  | cons x xs ih =>
    rw [List.flatMap_cons, List.length_append, ih (fun y hy => hz y (List.mem_cons_of_mem _ hy)), hz x (List.mem_cons_self ..), List.length_cons, Nat.add_mul, Nat.one_mul, Nat.add_comm]
theorem flat_at (hz : ∀ x ∈ xs, (f x).length = z) {i j : Nat} {x : α} {v : Value} (hi : xs[i]? = some x) (hj : (f x)[j]? = some v) : (xs.flatMap f)[i * z + j]? = some v := by
  induction xs generalizing i with
  | nil => simp at hi
  | cons y xs ih =>
    have hy := hz y (List.mem_cons_self ..)
    have hz' : ∀ x ∈ xs, (f x).length = z := fun w hw => hz w (List.mem_cons_of_mem _ hw)
    rw [List.flatMap_cons]
    cases i with
    | zero =>
      simp at hi
      subst hi
      have hl : j < (f y).length := by
        rcases Nat.lt_or_ge j (f y).length with h | h
        · exact h
        · rw [List.getElem?_eq_none h] at hj; cases hj
      rw [List.getElem?_append_left (by omega), Nat.zero_mul, Nat.zero_add]; exact hj
    | succ i =>
      have hi' : xs[i]? = some x := by simpa using hi
      rw [List.getElem?_append_right (by rw [hy, Nat.succ_mul]; omega), hy]
      rw [show (i + 1) * z + j - z = i * z + j by rw [Nat.succ_mul]; omega]
      exact ih hz' hi'
theorem flat_set (hz : ∀ x ∈ xs, (f x).length = z) {i j : Nat} {x y : α} {v : Value} (hi : xs[i]? = some x) (hj : j < z) (hy : f y = (f x).set j v) : (xs.flatMap f).set (i * z + j) v = (xs.set i y).flatMap f := by
  induction xs generalizing i with
  | nil => simp at hi
  | cons w xs ih =>
    have hw := hz w (List.mem_cons_self ..)
    have hz' : ∀ x ∈ xs, (f x).length = z := fun a ha => hz a (List.mem_cons_of_mem _ ha)
    cases i with
    | zero =>
      simp at hi
      subst hi
      rw [List.set_cons_zero, List.flatMap_cons, List.flatMap_cons, hy, Nat.zero_mul, Nat.zero_add, List.set_append_left _ _ (by omega)]
    | succ i =>
      have hi' : xs[i]? = some x := by simpa using hi
      rw [List.set_cons_succ, List.flatMap_cons, List.flatMap_cons, List.set_append_right _ _ (by rw [hw, Nat.succ_mul]; omega), hw,
        show (i + 1) * z + j - z = i * z + j by rw [Nat.succ_mul]; omega, ih hz' hi']
theorem sl.len {h : PH} (a : sl f E z p n c xs h) : xs.length = n ∧ n ≤ c := ⟨a.1, a.2.2.1⟩
theorem Sat.slLen (S : Sat H l) (hm : sl f E z p n c xs ∈ l) : xs.length = n ∧ n ≤ c := by
  obtain ⟨h, a, _⟩ := S.mem hm
  exact a.len
theorem Sat.slSome (S : Sat H l) (hm : sl f E z p n c xs ∈ l) (h0 : 0 < n) : ∃ r o, p = some ⟨r, o, none⟩ := by
  obtain ⟨h, ⟨a1, a2, a3, a4⟩, _⟩ := S.mem hm
  rcases a4 with ⟨_, rfl⟩ | ⟨r, pre, sp, rfl, _, _⟩
  · omega
  · exact ⟨r, pre.length, rfl⟩
theorem slCell_of {h : PH} {a : Addr} (hk : sl f E z (some a) n c xs h) (hs : PH.sub h (PH.of H)) {i j : Nat} {x : α} {v : Value} (hi : xs[i]? = some x) (hj : (f x)[j]? = some v) : hcell H (a.add (i * z + j)) = some v := by
  obtain ⟨a1, a2, a3, a4⟩ := hk
  rcases a4 with ⟨h0, _⟩ | ⟨r, pre, sp, he, _, hb⟩
  · cases h0
  · cases he
    rw [add_mk]
    refine hcell_of (hs _ _ hb) ?_
    rw [List.append_assoc, List.getElem?_append_right (by omega), Nat.add_sub_cancel_left]
    have := flat_at a2 hi hj
    rw [List.getElem?_append_left]
    · exact this
    · rcases Nat.lt_or_ge (i * z + j) (xs.flatMap f).length with h | h
      · exact h
      · rw [List.getElem?_eq_none h] at this; cases this
theorem Sat.slCell (S : Sat H l) {a : Addr} (hm : sl f E z (some a) n c xs ∈ l) {i j : Nat} {x : α} {v : Value} (hi : xs[i]? = some x) (hj : (f x)[j]? = some v) : hcell H (a.add (i * z + j)) = some v := by
  obtain ⟨h, a, hs⟩ := S.mem hm
  exact slCell_of a hs hi hj
theorem Sat.slOpen (S : Sat H (sl f E z p n c xs :: m)) : xs.length = n ∧ (∀ x ∈ xs, (f x).length = z) ∧ n ≤ c ∧
    ((p = none ∧ c = 0 ∧ Sat H m) ∨ ∃ r pre sp, p = some ⟨r, List.length pre, none⟩ ∧ (c - n) * z ≤ List.length sp ∧ Sat H (pt r (.cells ⟨pre ++ xs.flatMap f ++ sp⟩ E) :: m)) := by
  obtain ⟨h, ⟨a1, a2, a3, a4⟩, hs, x⟩ := S.out
  refine ⟨a1, a2, a3, ?_⟩
  rcases a4 with ⟨h0, h1⟩ | ⟨r, pre, sp, he, hl, hb⟩
  · exact .inl ⟨h0, h1, ⟨x.mono PH.minus_sub⟩⟩
  · exact .inr ⟨r, pre, sp, he, hl, ⟨h, hb, hs, x⟩⟩
theorem Ent.slClose {r o : Nat} {pre sp : List Value} (h1 : xs.length = n) (hz : ∀ x ∈ xs, (f x).length = z) (h2 : n ≤ c) (h3 : pre.length = o) (h4 : (c - n) * z ≤ sp.length) : Ent (pt r (.cells ⟨pre ++ xs.flatMap f ++ sp⟩ E) :: m) (sl f E z (some ⟨r, o, none⟩) n c xs :: m) :=
  Ent.first fun k hk => ⟨h1, hz, h2, .inr ⟨r, pre, sp, by rw [h3], h4, hk⟩⟩
theorem Ent.slNil (e : Ent l t) : Ent l (sl f E z none 0 0 [] :: t) := fun k x => ⟨fun _ => none, ⟨rfl, fun _ h => (by cases h), Nat.le_refl _, .inl ⟨rfl, rfl⟩⟩, fun _ _ h => (by cases h), (e k x).mono fun b o h => by rw [PH.minus_none rfl]; exact h⟩
/-- One cell of one record is written. -/
theorem Sat.slSet {a : Addr} (S : Sat H (sl f E z (some a) n c xs :: m)) {i j : Nat} {x y : α} {v : Value} {K : Heap → Prop} (hi : xs[i]? = some x) (hj : j < z) (hv : isCell v = true) (hy : f y = (f x).set j v)
    (k : ∀ H1, Sat H1 (sl f E z (some a) n c (xs.set i y) :: m) → K H1) : st1 H (a.add (i * z + j)) v K := by
  obtain ⟨a1, a2, a3, a4⟩ := S.slOpen
  rcases a4 with ⟨h0, _⟩ | ⟨r, pre, sp, he, hl, S1⟩
  · cases h0
  · cases he
    rw [add_mk]
    have hil : i < xs.length := by
      rcases Nat.lt_or_ge i xs.length with h | h
      · exact h
      · rw [List.getElem?_eq_none h] at hi; cases hi
    have hfl := flat_len a2
    have hle : i * z + j < (xs.flatMap f).length := by
      rw [hfl]
      have : (i + 1) * z ≤ xs.length * z := Nat.mul_le_mul_right z hil
      rw [Nat.succ_mul] at this
      omega
    refine st1_of (S1.at_ (List.mem_cons_self ..)) (List.getElem?_eq_getElem (by rw [List.length_append, List.length_append]; omega)) hv fun H1 u => k H1 ?_
    have S2 := S1.upd u
    rw [List.append_assoc, List.set_append_right _ _ (by omega), Nat.add_sub_cancel_left, List.set_append_left _ _ hle, flat_set a2 hi hj hy, ← List.append_assoc] at S2
    refine S2.to (Ent.slClose (by simpa using a1) ?_ a3 rfl hl)
    intro w hw
    rcases List.mem_or_eq_of_mem_set hw with hw | rfl
    · exact a2 w hw
    · rw [hy, List.length_set]; exact a2 x (List.mem_of_getElem? hi)
theorem stCs_front {r : Nat} {T : TypeId} {o : Nat} {K : Heap → Prop} : ∀ (us : List Value) (t : Nat) (H : Heap) (cs : List Value), Sat H (pt r (.cells ⟨cs⟩ T) :: m) → (∀ v ∈ us, isCell v = true) → o + t + us.length ≤ cs.length →
    (∀ H1, Sat H1 (pt r (.cells ⟨cs.take (o + t) ++ us ++ cs.drop (o + t + us.length)⟩ T) :: m) → K H1) → stCs ⟨r, o, none⟩ H t us K := by
  intro us
  induction us with
  | nil =>
    intro t H cs S _ hl k
    have h := k H
    simp only [List.append_nil, List.length_nil, Nat.add_zero, List.take_append_drop] at h
    exact h S
  | cons v us ih =>
    intro t H cs S hc hl k
    simp only [stCs]
    have hlt : o + t < cs.length := by simp at hl; omega
    rw [add_mk]
    refine st1_of (S.at_ (List.mem_cons_self ..)) (List.getElem?_eq_getElem hlt) (hc v (List.mem_cons_self ..)) fun H1 u => ?_
    refine ih (t + 1) H1 (cs.set (o + t) v) (S.upd u) (fun v hv => hc v (List.mem_cons_of_mem _ hv)) (by simp at hl ⊢; omega) ?_
    intro H2 S2
    refine k H2 ?_
    have e : (cs.set (o + t) v).take (o + (t + 1)) ++ us ++ (cs.set (o + t) v).drop (o + (t + 1) + us.length) = cs.take (o + t) ++ (v :: us) ++ cs.drop (o + t + (v :: us).length) := by
      rw [show o + (t + 1) = o + t + 1 from by omega, List.take_add_one, List.take_set_of_le (by omega)]
      simp only [List.getElem?_set_self hlt, Option.toList_some]
      rw [List.drop_set_of_lt (by omega)]
      simp only [List.append_assoc, List.singleton_append, List.cons_append, List.nil_append, List.length_cons, List.append_cancel_left_eq]
      rw [show o + t + 1 + us.length = o + t + (us.length + 1) from by omega]
    rw [e] at S2
    exact S2
theorem pre_seg {pre vs sp us : List Value} (h : us.length ≤ sp.length) : (pre ++ vs ++ sp).take (pre.length + vs.length) ++ us ++ (pre ++ vs ++ sp).drop (pre.length + vs.length + us.length) = pre ++ (vs ++ us) ++ sp.drop us.length := by
  have e1 : (pre ++ vs ++ sp).take (pre.length + vs.length) = pre ++ vs := by
    rw [show pre.length + vs.length = (pre ++ vs).length by simp, List.take_left]
  have e2 : (pre ++ vs ++ sp).drop (pre.length + vs.length + us.length) = sp.drop us.length := by
    rw [show pre.length + vs.length + us.length = (pre ++ vs).length + us.length by simp, List.drop_length_add_append]
  rw [e1, e2]
  simp
/-- The slice grows by records that stand somewhere. -/
theorem Sat.slApp (S : Sat H (sl f E z p n c xs :: m)) {bytes d : Nat} {zs : List Value} {q : Option Addr} {ys : List α} {K : Option Addr → Nat → Nat → Heap → Prop} (hq : cellsAt H q (ys.flatMap f)) (hd : ys.length = d) (hys : ∀ y ∈ ys, (f y).length = z) (hc : ∀ v ∈ ys.flatMap f, isCell v = true)
    (hzs : zs.length = z) (hb : bytes ≠ 0) (hs : (2 * (n + d) + 768) * bytes ≤ 2 ^ 48) (k : ∀ p' c' H1, Sat H1 (sl f E z p' (n + d) c' (xs ++ ys) :: m) → K p' (n + d) c' H1) : apD H z bytes zs E p n c q d K := by
  obtain ⟨a1, a2, a3, a4⟩ := S.slOpen
  have hall : ∀ x ∈ xs ++ ys, (f x).length = z := fun x hx => (List.mem_append.1 hx).elim (a2 x) (hys x)
  have hlen : (xs ++ ys).length = n + d := by simp [a1, hd]
  have hyl : (ys.flatMap f).length = d * z := by rw [flat_len hys, hd]
  have hxl : (xs.flatMap f).length = n * z := by rw [flat_len a2, a1]
  refine ⟨ys.flatMap f, hyl, hq, ?_, ?_⟩
  · intro hle
    rcases a4 with ⟨rfl, rfl, S1⟩ | ⟨r, pre, sp, rfl, hl, S1⟩
    · have hd0 : d = 0 := by omega
      have hn0 : n = 0 := by omega
      subst hd0; subst hn0
      have ex : xs = [] := List.eq_nil_of_length_eq_zero a1
      have ey : ys = [] := List.eq_nil_of_length_eq_zero hd
      subst ex; subst ey
      simp only [stP]
      exact k _ _ _ (S1.to (Ent.slNil .refl))
    · simp only [stP]
      rw [add_mk]
      have hroom : (ys.flatMap f).length ≤ sp.length := by rw [hyl]; exact Nat.le_trans (Nat.mul_le_mul_right z (by omega)) hl
      refine stCs_front (o := pre.length + n * z) (ys.flatMap f) 0 H _ S1 hc (by simp only [List.length_append, hxl]; omega) ?_
      intro H1 S2
      rw [Nat.add_zero, ← hxl, pre_seg hroom, ← List.flatMap_append] at S2
      refine k _ _ _ (S2.to (Ent.slClose hlen hall hle rfl ?_))
      rw [List.length_drop, hyl]
      have : (c - (n + d)) * z + d * z ≤ (c - n) * z := by rw [← Nat.add_mul]; exact Nat.mul_le_mul_right z (by omega)
      omega
  · intro hlt
    refine ⟨hb, ?_, ?_⟩
    · have := nextcap_le (n := n + d) (c := c) hlt
      exact Nat.le_trans (Nat.mul_le_mul_right _ this) hs
    · rcases a4 with ⟨rfl, rfl, S1⟩ | ⟨r, pre, sp, rfl, hl, S1⟩
      · have hn0 : n = 0 := by omega
        subst hn0
        have ex : xs = [] := List.eq_nil_of_length_eq_zero a1
        subst ex
        refine ⟨[], by simp, fun j v h => by simp at h, fun cap hcap => k _ _ _ ?_⟩
        have S2 := S1.push (.cells ⟨[] ++ ([] ++ ys).flatMap f ++ repZ zs (cap - (0 + d))⟩ E)
        simp only [List.nil_append] at S2 ⊢
        refine S2.to (Ent.slClose (pre := []) (by simpa using hd) (by simpa using hall) hcap rfl ?_)
        rw [repZ_length, hzs]; exact Nat.le_refl _
      · refine ⟨xs.flatMap f, hxl, ?_, fun cap hcap => k _ _ _ ?_⟩
        · intro j v hj
          refine ⟨_, rfl, ?_⟩
          rw [add_mk]
          refine hcell_of (S1.at_ (List.mem_cons_self ..)) ?_
          rw [List.append_assoc, List.getElem?_append_right (by omega), Nat.add_sub_cancel_left, List.getElem?_append_left]
          · exact hj
          · rcases Nat.lt_or_ge j (xs.flatMap f).length with h | h
            · exact h
            · rw [List.getElem?_eq_none h] at hj; cases hj
        · have S2 := S1.push (.cells ⟨[] ++ (xs ++ ys).flatMap f ++ repZ zs (cap - (n + d))⟩ E)
          have e : (xs.flatMap f ++ ys.flatMap f ++ repZ zs (cap - (n + d))) = [] ++ (xs ++ ys).flatMap f ++ repZ zs (cap - (n + d)) := by simp
          rw [e]
          have S3 : Sat (H.push (.cells ⟨[] ++ (xs ++ ys).flatMap f ++ repZ zs (cap - (n + d))⟩ E)) (sl f E z (some ⟨H.size, 0, none⟩) (n + d) cap (xs ++ ys) :: pt r (.cells ⟨pre ++ xs.flatMap f ++ sp⟩ E) :: m) := by
            refine S2.to (Ent.slClose (pre := []) hlen hall hcap rfl ?_)
            rw [repZ_length, hzs]; exact Nat.le_refl _
          exact S3.to (Ent.cons (Ent.drop .refl))
/-- A part of a slice. -/
theorem Ent.slPart {lo hi mx : Nat} (h1 : lo ≤ hi) (h2 : hi ≤ mx) (h3 : mx ≤ c) (h4 : hi ≤ n) : Ent (sl f E z p n c xs :: m) (sl f E z (slP p lo mx z) (hi - lo) (mx - lo) ((xs.drop lo).take (hi - lo)) :: m) := by
  refine Ent.first fun k hk => ?_
  obtain ⟨a1, a2, a3, a4⟩ := hk
  refine ⟨by simp; omega, fun x hx => a2 x (List.mem_of_mem_drop (List.mem_of_mem_take hx)), by omega, ?_⟩
  rcases a4 with ⟨rfl, rfl⟩ | ⟨r, pre, sp, rfl, hl, hb⟩
  · left
    refine ⟨?_, by omega⟩
    unfold slP; split <;> rfl
  · right
    have hz1 : ∀ x ∈ xs.take lo, (f x).length = z := fun x hx => a2 x (List.mem_of_mem_take hx)
    have hz2 : ∀ x ∈ (xs.drop lo).take (hi - lo), (f x).length = z := fun x hx => a2 x (List.mem_of_mem_drop (List.mem_of_mem_take hx))
    have hz3 : ∀ x ∈ (xs.drop lo).drop (hi - lo), (f x).length = z := fun x hx => a2 x (List.mem_of_mem_drop (List.mem_of_mem_drop hx))
    have e : xs.flatMap f = (xs.take lo).flatMap f ++ (((xs.drop lo).take (hi - lo)).flatMap f ++ ((xs.drop lo).drop (hi - lo)).flatMap f) := by
      rw [← List.flatMap_append, ← List.flatMap_append, List.take_append_drop, List.take_append_drop]
    have l1 : ((xs.take lo).flatMap f).length = lo * z := by rw [flat_len hz1]; congr 1; simp; omega
    have l3 : (((xs.drop lo).drop (hi - lo)).flatMap f).length = (n - hi) * z := by rw [flat_len hz3]; congr 1; simp; omega
    by_cases hm : mx = lo
    · have e0 : hi - lo = 0 := by omega
      have e1 : mx - lo = 0 := by omega
      rw [e0, e1]
      refine ⟨r, pre, xs.flatMap f ++ sp, by unfold slP; rw [if_pos hm], by simp, ?_⟩
      simpa using hb
    · refine ⟨r, pre ++ (xs.take lo).flatMap f, ((xs.drop lo).drop (hi - lo)).flatMap f ++ sp, ?_, ?_, ?_⟩
      · unfold slP; rw [if_neg hm, List.length_append, l1, Option.map_some, add_mk]
      · rw [List.length_append, l3]
        have : (mx - lo - (hi - lo)) * z ≤ (n - hi) * z + (c - n) * z := by rw [← Nat.add_mul]; exact Nat.mul_le_mul_right z (by omega)
        omega
      · rw [hb, e]; simp
end
/-! ### Found by their form -/
/-- A piece of the list. -/
class Piece (c : HP) (l : List HP) : Prop where
  out : c ∈ l
/-- The slice that begins at an address. -/
class SlAt (p : Option Addr) (l : List HP) (c : outParam HP) : Prop where
  out : ∀ k, SatP k l → ∃ h, c h ∧ PH.sub h k
theorem SlAt.of {p : Option Addr} {l : List HP} {c : HP} (h : c ∈ l) : SlAt p l c := ⟨fun k x => x.mem h⟩
instance (priority := 2000) SlAt.here {α : Type} {f : α → List Value} {E : TypeId} {z n c : Nat} {p : Option Addr} {xs : List α} {l : List HP} : SlAt p (sl f E z p n c xs :: l) (sl f E z p n c xs) := .of (List.mem_cons_self ..)
instance (priority := 1500) SlAt.star {p : Option Addr} {c : HP} {l m : List HP} [h : SlAt p m c] : SlAt p (Den.star m :: l) c := ⟨fun k x => by
  obtain ⟨g, h1, h2, _⟩ := x
  obtain ⟨f, h3, h4⟩ := h.out g h1
  exact ⟨f, h3, h4.trans h2⟩⟩
instance (priority := 1000) SlAt.there {p : Option Addr} {c d : HP} {l : List HP} [h : SlAt p l c] : SlAt p (d :: l) c := ⟨fun k x => h.out k x.tail⟩
/-- The slice that begins at an address is another one. -/
class SlPut (p : Option Addr) (c' : HP) (l : List HP) (l' : outParam (List HP)) : Prop where
  out : ∃ c m, Sel c l m ∧ Sel c' l' m
class SlSel (p : Option Addr) (c' : HP) (l : List HP) (c : outParam HP) (l' : outParam (List HP)) : Prop where
  out : ∃ m, Sel c l m ∧ Sel c' l' m
instance (priority := 2000) SlSel.here {α : Type} {f : α → List Value} {E : TypeId} {z n c : Nat} {p : Option Addr} {xs : List α} {l : List HP} {c' : HP} : SlSel p c' (sl f E z p n c xs :: l) (sl f E z p n c xs) (c' :: l) := ⟨l, .here, .here⟩
instance (priority := 1000) SlSel.there {p : Option Addr} {c c' d : HP} {l l' : List HP} [h : SlSel p c' l c l'] : SlSel p c' (d :: l) c (d :: l') := by
  obtain ⟨m, a, b⟩ := h.out
  exact ⟨d :: m, a.there, b.there⟩
/-- The cell of a slice's record. -/
class Elt (A : Addr) (a : outParam Addr) (i : outParam Int) (z j : outParam Nat) : Prop where
  out : A = a.add (i.toNat * z + j)
instance (priority := 2000) {a : Addr} {i : Int} {z : Nat} : Elt (Addr.add a (Int.toNat i * z)) a i z 0 := ⟨rfl⟩
instance (priority := 2000) {a : Addr} {i : Int} {z j : Nat} : Elt (Addr.add (Addr.add a (Int.toNat i * z)) j) a i z j := ⟨by rw [add_add']⟩
instance (priority := 1500) {A a : Addr} {i : Int} {z j k : Nat} [h : Elt A a i z j] : Elt (Addr.add A k) a i z (j + k) := ⟨by rw [h.out, add_add', Nat.add_assoc]⟩
class HasI {α : Type} (xs : List α) (i : Int) (x : outParam α) : Prop where
  out : xs[i.toNat]? = some x
class Enc {α : Type} (f : α → List Value) (cs : List Value) (y : outParam α) : Prop where
  out : f y = cs
section
variable {α : Type} {f : α → List Value} {E : TypeId} {z : Nat} {n c : Nat} {xs : List α} {H H1 : Heap} {l m t : List HP} {A a : Addr} {i : Int} {j : Nat} {x : α}
theorem elt_cell {v : Value} (S : Sat H l) (L : Elt A a i z j) (F : SlAt (some a) l (sl f E z (some a) n c xs)) (X : HasI xs i x) (N : Nth (f x) j v) : hcell H A = some v := by
  rw [L.out]
  obtain ⟨h, h1, h2⟩ := F.out _ S.out
  exact slCell_of h1 h2 X.out N.out
instance {kd : IntKind} {k : Int} {K : Int → Prop} [S : Sat H l] [L : Elt A a i z j] [F : SlAt (some a) l (sl f E z (some a) n c xs)] [X : HasI xs i x] [N : Nth (f x) j (.int kd k)] : Step (ldInt H A kd K) (K k) := ⟨fun h => ⟨_, elt_cell S L F X N, h⟩⟩
instance {k : Bool} {K : Bool → Prop} [S : Sat H l] [L : Elt A a i z j] [F : SlAt (some a) l (sl f E z (some a) n c xs)] [X : HasI xs i x] [N : Nth (f x) j (.bool k)] : Step (ldBool H A K) (K k) := ⟨fun h => ⟨_, elt_cell S L F X N, h⟩⟩
instance {k : ByteArray} {K : ByteArray → Prop} [S : Sat H l] [L : Elt A a i z j] [F : SlAt (some a) l (sl f E z (some a) n c xs)] [X : HasI xs i x] [N : Nth (f x) j (.string k)] : Step (ldStr H A K) (K k) := ⟨fun h => ⟨_, elt_cell S L F X N, h⟩⟩
instance {k : Option Addr} {K : Option Addr → Prop} [S : Sat H l] [L : Elt A a i z j] [F : SlAt (some a) l (sl f E z (some a) n c xs)] [X : HasI xs i x] [N : Nth (f x) j (.pointer k)] : Step (ldPtr H A K) (K k) := ⟨fun h => ⟨_, elt_cell S L F X N, h⟩⟩
instance {p : Option Addr} {u w : Nat} {K : Option Addr → Nat → Nat → Prop} [S : Sat H l] [L : Elt A a i z j] [F : SlAt (some a) l (sl f E z (some a) n c xs)] [X : HasI xs i x] [N : Nth (f x) j (.slice p u w)] : Step (ldSl H A K) (K p u w) := ⟨fun h => ⟨_, _, _, elt_cell S L F X N, h⟩⟩
instance {k : Option Nat} {K : Option Nat → Prop} [S : Sat H l] [L : Elt A a i z j] [F : SlAt (some a) l (sl f E z (some a) n c xs)] [X : HasI xs i x] [N : Nth (f x) j (.map k)] : Step (ldMap H A K) (K k) := ⟨fun h => ⟨_, elt_cell S L F X N, h⟩⟩
theorem Sat.resel {c c' : HP} {l l' : List HP} {p : Option Addr} (S : Sat H l) (U : SlSel p c' l c l') : ∃ m, Sat H (c :: m) ∧ ∀ H1, Sat H1 (c' :: m) → Sat H1 l' := by
  obtain ⟨m, a, b⟩ := U.out
  exact ⟨m, S.bring a, fun H1 S1 => S1.to fun k x => SatP.perm b.perm.symm x⟩
instance {v : Value} {cs' : List Value} {y : α} {l' : List HP} {K : Heap → Prop} [S : Sat H l] [L : Elt A a i z j] [F : SlAt (some a) l (sl f E z (some a) n c xs)] [X : HasI xs i x] [V : SetN (f x) j v cs'] [Y : Enc f cs' y] [C : IsC v] [U : SlSel (some a) (sl f E z (some a) n c (xs.set i.toNat y)) l (sl f E z (some a) n c xs) l'] :
    Step (st1 H A v K) (Duo (j < z) (∀ H1, Sat H1 l' → K H1)) := ⟨fun h => by
  rw [L.out]
  obtain ⟨m, S1, back⟩ := S.resel U
  exact S1.slSet X.out h.1 C.out (by rw [Y.out, V.out]) fun H1 S2 => h.2 H1 (back H1 S2)⟩
/-- A place in a slice that is known. -/
theorem Sat.idx (S : Sat H l) {p : Option Addr} {k : Addr → Prop} [F : SlAt p l (sl f E z p n c xs)] (h : 0 ≤ i ∧ i < n ∧ ∀ r o, p = some ⟨r, o, none⟩ → k ⟨r, o, none⟩) : idxD p n i k := by
  obtain ⟨h0, h1, h2⟩ := h
  obtain ⟨h, ⟨a1, a2, a3, a4⟩, _⟩ := F.out _ S.out
  obtain ⟨r, o, rfl⟩ : ∃ r o, p = some ⟨r, o, none⟩ := by
    rcases a4 with ⟨_, rfl⟩ | ⟨r, pre, sp, rfl, _, _⟩
    · omega
    · exact ⟨r, pre.length, rfl⟩
  exact ⟨h0, h1, h2 r o rfl⟩
/-- One record is put behind a slice: out of a block of its own. -/
instance {p : Option Addr} {r : Nat} {cs zs : List Value} {T : TypeId} {fr : Nat × Nat} {y : α} {bytes : Nat} {l' : Option Addr → Nat → List HP} {K : Option Addr → Nat → Nat → Heap → Prop} [S : Sat H l] [F : SlAt p l (sl f E z p n c xs)] [B : At r (.cells ⟨cs⟩ T fr) l] [Y : Enc f cs y] [U : ∀ p' c', SlSel p (sl f E z p' (n + 1) c' (xs ++ [y])) l (sl f E z p n c xs) (l' p' c')] :
    Step (apD H z bytes zs E p n c (some ⟨r, 0, none⟩) 1 K) (Duo (zs.length = z) (Duo (bytes ≠ 0 ∧ (2 * (n + 1) + 768) * bytes ≤ 2 ^ 48) (Duo (cs.length = z) (Duo (cs.all isCell = true) (∀ p' c' H1, Sat H1 (l' p' c') → K p' (n + 1) c' H1))))) := ⟨fun h => by
  obtain ⟨h1, ⟨h2, h3⟩, h4, h5', hk⟩ := h
  have h5 : ∀ v ∈ cs, isCell v = true := fun v hv => List.all_eq_true.1 h5' v hv
  obtain ⟨m, a, _⟩ := (U none 0).out
  have S1 := S.bring a
  have key : ∀ p' c' H1, Sat H1 (sl f E z p' (n + 1) c' (xs ++ [y]) :: m) → Sat H1 (l' p' c') := by
    intro p' c' H1 S2
    obtain ⟨m', a', b'⟩ := (U p' c').out
    have : m'.Perm m := List.Perm.cons_inv (a'.perm.symm.trans a.perm)
    exact S2.to fun k x => SatP.perm b'.perm.symm (SatP.perm (this.symm.cons _) x)
  refine S1.slApp (ys := [y]) (by
    simp only [List.flatMap_cons, List.flatMap_nil, List.append_nil, Y.out]
    intro j v hj
    exact ⟨_, rfl, by rw [add_mk, Nat.zero_add]; exact hcell_of (B.get S) hj⟩) rfl (by
    intro w hw; simp at hw; subst hw; rw [Y.out]; exact h4) (by simpa [Y.out] using h5) h1 h2 h3 fun p' c' H1 S2 => hk p' c' H1 (key p' c' H1 S2)⟩
end
/-! ### A piece for each of a list -/
def bigs {α : Type} (f : Nat → α → HP) : Nat → List α → List HP
  | _, [] => []
  | k, x :: xs => f k x :: bigs f (k + 1) xs
section
variable {α : Type} {f : Nat → α → HP}
theorem bigs_at : ∀ {xs : List α} {k i : Nat} {x : α}, xs[i]? = some x → ∃ R, (bigs f k xs).Perm (f (k + i) x :: R) ∧ ∀ y, (bigs f k (xs.set i y)).Perm (f (k + i) y :: R)
  | [], k, i, x, h => by simp at h
  | w :: xs, k, 0, x, h => by
    simp at h
    subst h
    exact ⟨bigs f (k + 1) xs, by simp [bigs], fun y => by simp [bigs]⟩
  | w :: xs, k, i + 1, x, h => by
    obtain ⟨R, h1, h2⟩ := bigs_at (xs := xs) (k := k + 1) (i := i) (x := x) (by simpa using h)
    have e : k + 1 + i = k + (i + 1) := by omega
    rw [e] at h1
    refine ⟨f k w :: R, (h1.cons _).trans (.swap _ _ _), fun y => ?_⟩
    have h3 := h2 y
    rw [e] at h3
    rw [List.set_cons_succ]
    exact (h3.cons _).trans (.swap _ _ _)
theorem bigs_append : ∀ {xs ys : List α} {k : Nat}, bigs f k (xs ++ ys) = bigs f k xs ++ bigs f (k + xs.length) ys
  | [], ys, k => by simp [bigs]
  | x :: xs, ys, k => by
    simp only [List.cons_append, bigs, bigs_append (xs := xs), List.length_cons]
    rw [show k + 1 + xs.length = k + (xs.length + 1) by omega]
theorem bigs_mem {xs : List α} {k i : Nat} {x : α} (h : xs[i]? = some x) : f (k + i) x ∈ bigs f k xs := by
  obtain ⟨R, h1, _⟩ := bigs_at (f := f) (k := k) h
  exact h1.mem_iff.2 (List.mem_cons_self ..)
/-- One piece is taken out, to be put back as another one's. -/
theorem Sat.bigOut {H : Heap} {xs : List α} {k i : Nat} {x : α} {l : List HP} (S : Sat H (Den.star (bigs f k xs) :: l)) (h : xs[i]? = some x) : ∃ R, Sat H (f (k + i) x :: Den.star R :: l) ∧ ∀ y, Ent (f (k + i) y :: Den.star R :: l) (Den.star (bigs f k (xs.set i y)) :: l) := by
  obtain ⟨R, h1, h2⟩ := bigs_at (f := f) (k := k) h
  have key : ∀ (c : HP) (m : List HP), m.Perm (c :: R) → Ent (Den.star m :: l) (c :: Den.star R :: l) ∧ Ent (c :: Den.star R :: l) (Den.star m :: l) := by
    intro c m hm
    constructor
    · intro q x
      have x1 := SatP.star_iff.1 x
      have x2 : SatP q ((c :: R) ++ l) := SatP.perm (hm.append_right l) x1
      exact SatP.cons_mono (fun q x => SatP.star_iff.2 x) x2
    · intro q x
      have x1 : SatP q (c :: (R ++ l)) := SatP.cons_mono (fun q x => SatP.star_iff.1 x) x
      exact SatP.star_iff.2 (SatP.perm (hm.symm.append_right l) x1)
  exact ⟨R, S.to (key _ _ h1).1, fun y => (key _ _ (h2 y)).2⟩
theorem bigs_at2 : ∀ {xs : List α} {k i j : Nat} {x y : α}, xs[i]? = some x → xs[j]? = some y → i ≠ j → ∃ R, (bigs f k xs).Perm (f (k + i) x :: f (k + j) y :: R) ∧ ∀ x' y', (bigs f k ((xs.set i x').set j y')).Perm (f (k + i) x' :: f (k + j) y' :: R)
  | [], k, i, j, x, y, h, _, _ => by simp at h
  | w :: xs, k, 0, 0, x, y, _, _, h => by omega
  | w :: xs, k, 0, j + 1, x, y, h1, h2, _ => by
    simp at h1
    subst h1
    obtain ⟨R, h3, h4⟩ := bigs_at (f := f) (xs := xs) (k := k + 1) (i := j) (x := y) (by simpa using h2)
    have e : k + 1 + j = k + (j + 1) := by omega
    rw [e] at h3
    refine ⟨R, by simpa [bigs] using h3, fun x' y' => ?_⟩
    have h5 := h4 y'
    rw [e] at h5
    simpa [bigs] using h5
  | w :: xs, k, i + 1, 0, x, y, h1, h2, _ => by
    simp at h2
    subst h2
    obtain ⟨R, h3, h4⟩ := bigs_at (f := f) (xs := xs) (k := k + 1) (i := i) (x := x) (by simpa using h1)
    have e : k + 1 + i = k + (i + 1) := by omega
    rw [e] at h3
    refine ⟨R, by simpa [bigs] using (h3.cons _).trans (.swap _ _ _), fun x' y' => ?_⟩
    have h5 := h4 x'
    rw [e] at h5
    simpa [bigs] using (h5.cons _).trans (.swap _ _ _)
  | w :: xs, k, i + 1, j + 1, x, y, h1, h2, h => by
    obtain ⟨R, h3, h4⟩ := bigs_at2 (xs := xs) (k := k + 1) (i := i) (j := j) (x := x) (y := y) (by simpa using h1) (by simpa using h2) (by omega)
    have e1 : k + 1 + i = k + (i + 1) := by omega
    have e2 : k + 1 + j = k + (j + 1) := by omega
    rw [e1, e2] at h3
    have sw : ∀ (a b c : HP) (R : List HP), (c :: a :: b :: R).Perm (a :: b :: c :: R) := fun a b c R => (List.Perm.swap a c (b :: R)).trans ((List.Perm.swap b c R).cons a)
    refine ⟨f k w :: R, by simpa [bigs] using (h3.cons _).trans (sw _ _ _ _), fun x' y' => ?_⟩
    have h5 := h4 x' y'
    rw [e1, e2] at h5
    simpa [bigs] using (h5.cons _).trans (sw _ _ _ _)
theorem Ent.starPerm {a b l : List HP} (h : a.Perm b) : Ent (Den.star a :: l) (Den.star b :: l) := fun q x => SatP.star_iff.2 (SatP.perm (h.append_right l) (SatP.star_iff.1 x))
theorem Ent.starCons {c : HP} {a l : List HP} : Ent (Den.star (c :: a) :: l) (c :: Den.star a :: l) := fun q x => SatP.cons_mono (fun q x => SatP.star_iff.2 x) (SatP.star_iff.1 x)
theorem Ent.consStar {c : HP} {a l : List HP} : Ent (c :: Den.star a :: l) (Den.star (c :: a) :: l) := fun q x => SatP.star_iff.2 (SatP.cons_mono (fun q x => SatP.star_iff.1 x) x)
theorem Sat.bigOut2 {H : Heap} {xs : List α} {k i j : Nat} {x y : α} {l : List HP} (S : Sat H (Den.star (bigs f k xs) :: l)) (h1 : xs[i]? = some x) (h2 : xs[j]? = some y) (h : i ≠ j) : ∃ R, Sat H (f (k + i) x :: f (k + j) y :: Den.star R :: l) ∧ ∀ x' y', Ent (f (k + i) x' :: f (k + j) y' :: Den.star R :: l) (Den.star (bigs f k ((xs.set i x').set j y')) :: l) := by
  obtain ⟨R, h3, h4⟩ := bigs_at2 (f := f) (k := k) h1 h2 h
  refine ⟨R, S.to (((Ent.starPerm h3).trans .starCons).trans (.cons .starCons)), fun x' y' => ((Ent.cons Ent.consStar).trans .consStar).trans (.starPerm (h4 x' y').symm)⟩
end
end Go.Den
