/- A plain reading of Go functions, proved to be what they do; no condition. -/
/- RowsAt of records, slices that grow, what changed and what did not. -/
import Derived.Test.YtobolifgehagfaaGreatDenX
set_option linter.unusedVariables false
set_option linter.unusedSimpArgs false
namespace Go.Den
open Go

theorem add_zero' (a : Addr) : a.add 0 = a := by unfold Addr.add; simp
theorem add_add' (a : Addr) (x y : Nat) : (a.add x).add y = a.add (x + y) := by
  unfold Addr.add
  by_cases hx : x = 0
  · subst hx; simp
  · by_cases hy : y = 0
    · subst hy; simp
    · simp [hx, hy]; omega
theorem add_block (a : Addr) (x : Nat) : (a.add x).block = a.block := by unfold Addr.add; split <;> rfl

theorem growBy_le (n : Nat) : ∀ (k c : Nat), c ≤ 2 * n + 768 → Builtin.growBy n k c ≤ 2 * n + 768 := by
  intro k
  induction k with
  | zero => intro c h; simpa [Builtin.growBy] using h
  | succ k ih =>
    intro c h
    simp only [Builtin.growBy]
    split
    · exact h
    · exact ih _ (by omega)
theorem nextcap_le {n c : Nat} (h : c < n) : Builtin.nextslicecap n c ≤ 2 * n + 768 := by
  unfold Builtin.nextslicecap
  split
  · omega
  · split
    · omega
    · exact growBy_le n _ _ (by omega)

/-- Records that lie in a row, z cells each. -/
def RowsAt {α : Type} (f : α → List Value) (z : Nat) (H : Heap) (p : Option Addr) (l : List α) : Prop :=
  l = [] ∨ ∃ a, p = some a ∧ ∀ i x, l[i]? = some x → ∀ j v, (f x)[j]? = some v → hcell H ((a.add (i * z)).add j) = some v
section
variable {α : Type} {f : α → List Value} {z : Nat} {H H1 : Heap} {p : Option Addr} {l : List α}
theorem RowsAt.ext (h : RowsAt f z H p l) (e : ExtH H H1) : RowsAt f z H1 p l := by
  rcases h with h | ⟨a, rfl, h⟩
  · exact .inl h
  · exact .inr ⟨a, rfl, fun i x hi j v hj => e.cell (h i x hi j v hj)⟩
theorem RowsAt.nil : RowsAt f z H p [] := .inl rfl
/-- A place in the row. -/
theorem RowsAt.idx (h : RowsAt f z H p l) {n : Nat} {i : Int} {k : Addr → Prop} (hn : n = l.length) (h0 : 0 ≤ i) (h1 : i < n)
    (hk : ∀ a x, l[i.toNat]? = some x → (∀ j v, (f x)[j]? = some v → hcell H ((a.add (i.toNat * z)).add j) = some v) → k a) : idxD p n i k := by
  have hi : i.toNat < l.length := by omega
  rcases h with h | ⟨a, rfl, h⟩
  · subst h; simp at hi
  · exact ⟨h0, h1, hk a _ (List.getElem?_eq_getElem hi) (h _ _ (List.getElem?_eq_getElem hi))⟩
/-- What the base of a record holds. -/
theorem at_zero {a : Addr} {cs : List Value} (h : ∀ j v, cs[j]? = some v → hcell H (a.add j) = some v) {v : Value} (h0 : cs[0]? = some v) : hcell H a = some v := by
  have := h 0 v h0
  rwa [add_zero'] at this
theorem RowsAt.of_block {r : Nat} {cs : List Value} {T : TypeId} {fr : Nat × Nat} (hb : H[r]? = some (.cells ⟨cs⟩ T fr)) (hc : ∀ i x, l[i]? = some x → ∀ j v, (f x)[j]? = some v → cs[i * z + j]? = some v) :
    RowsAt f z H (some ⟨r, 0, none⟩) l := by
  refine .inr ⟨_, rfl, fun i x hi j v hj => ?_⟩
  rw [add_add', add_mk, Nat.zero_add]
  exact hcell_of hb (hc i x hi j v hj)
end
theorem flat_get {α : Type} {f : α → List Value} {z : Nat} (hz : ∀ x, (f x).length = z) : ∀ (l : List α) (sp : List Value) (i : Nat) (x : α), l[i]? = some x → ∀ j v, (f x)[j]? = some v → (l.flatMap f ++ sp)[i * z + j]? = some v := by
  intro l
  induction l with
  | nil => intro sp i x hi; simp at hi
  | cons y l ih =>
    intro sp i x hi j v hj
    have hjl : j < z := by
      rw [← hz x]
      rcases Nat.lt_or_ge j (f x).length with h | h
      · exact h
      · rw [List.getElem?_eq_none h] at hj; cases hj
    cases i with
    | zero =>
      simp at hi
      subst hi
      simp only [List.flatMap_cons, Nat.zero_mul, Nat.zero_add, List.append_assoc]
      rw [List.getElem?_append_left (by rw [hz]; exact hjl)]
      exact hj
    | succ i =>
      simp only [List.flatMap_cons, List.append_assoc]
      rw [List.getElem?_append_right (by rw [hz, Nat.succ_mul]; omega), hz, show (i + 1) * z + j - z = i * z + j from by rw [Nat.succ_mul]; omega]
      exact ih sp i x (by simpa using hi) j v hj
theorem flat_length {α : Type} {f : α → List Value} {z : Nat} (hz : ∀ x, (f x).length = z) (l : List α) : (l.flatMap f).length = l.length * z := by
  induction l with
  | nil => simp
  | cons y l ih => simp [List.flatMap_cons, ih, hz, Nat.succ_mul]; omega

/-- A slice that the call grows: nil, or a block of its own, which heads the list of blocks. -/
inductive Gro (H0 H : Heap) (b : List Blk) (E : TypeId) (z : Nat) : Option Addr → Nat → Nat → List Value → Prop
  | nil : Loc H0 H b → Gro H0 H b E z none 0 0 []
  | mk {r n c : Nat} {vs sp : List Value} : Loc H0 H ((r, vs ++ sp, E) :: b) → vs.length = n * z → sp.length = (c - n) * z → n ≤ c → Gro H0 H b E z (some ⟨r, 0, none⟩) n c vs
section
variable {H0 H H1 : Heap} {b : List Blk} {E : TypeId} {z : Nat} {p : Option Addr} {n c : Nat} {vs : List Value}
theorem Gro.ext (g : Gro H0 H b E z p n c vs) (e : ExtH H H1) : Gro H0 H1 b E z p n c vs := by
  cases g with
  | nil L => exact .nil (L.extend e)
  | mk L h1 h2 h3 => exact .mk (L.extend e) h1 h2 h3
theorem Gro.loc (g : Gro H0 H b E z p n c vs) : Loc H0 H b := by
  cases g with
  | nil L => exact L
  | mk L h1 h2 h3 => exact L.tail
theorem Gro.len (g : Gro H0 H b E z p n c vs) : vs.length = n * z := by
  cases g with
  | nil L => simp
  | mk L h1 h2 h3 => exact h1
/-- Append to a slice of one's own. -/
theorem Gro.app (g : Gro H0 H b E z p n c vs) {bytes m : Nat} {zs us : List Value} {K : Option Addr → Nat → Nat → Heap → Prop} (hz : zs.length = z) (hb : bytes ≠ 0) (hs : (2 * (n + m) + 768) * bytes ≤ 2 ^ 48) (hu : us.length = m * z) (hm : 0 < m) (hcell : ∀ v ∈ us, isCell v = true)
    (k : ∀ p' c' H1, Gro H0 H1 b E z p' (n + m) c' (vs ++ us) → H.size ≤ H1.size → (∀ i, i < H.size → p ≠ some ⟨i, 0, none⟩ → H1[i]? = H[i]? ∧ p' ≠ some ⟨i, 0, none⟩) → K p' (n + m) c' H1) : apV H z bytes zs E p n c m us K := by
  have hrep : ∀ k, (repZ zs k).length = k * z := by
    intro k
    have : (⟨repZ zs k⟩ : Array Value) = ⟨(List.replicate k zs).flatten⟩ := (repZ_spec zs k).trans (range_rep zs k)
    injection this with this
    rw [this]
    simp [List.length_flatten, hz]
  cases g with
  | nil L =>
    refine ⟨fun h => by omega, fun _ => ⟨hb, ?_, [], by simp, fun j v h => by simp at h, fun cap hcap => ?_⟩⟩
    · exact Nat.le_trans (Nat.mul_le_mul_right _ (nextcap_le (by omega))) hs
    · exact k _ _ _ (.mk (L.push _ _) (by simpa using hu) (by rw [hrep]) hcap) (ExtH.push _ _).size (fun i hi _ => ⟨(ExtH.push _ _).block i hi, by simp; omega⟩)
  | mk L h1 h2 h3 =>
    rename_i r sp
    refine ⟨fun h => ?_, fun h => ⟨hb, ?_, vs, h1, fun j v hj => ⟨_, rfl, ?_⟩, fun cap hcap => ?_⟩⟩
    · show stCs _ H 0 us _
      have hl : us.length ≤ sp.length := by rw [hu, h2]; exact Nat.mul_le_mul_right _ (by omega)
      have key : ∀ (us : List Value) (H : Heap) (i : Nat) (cs : List Value), Loc H0 H ((r, cs, E) :: b) → (∀ v ∈ us, isCell v = true) → n * z + i + us.length ≤ cs.length →
          (∀ H1, Loc H0 H1 ((r, cs.take (n * z + i) ++ us ++ cs.drop (n * z + i + us.length), E) :: b) → H.size ≤ H1.size → (∀ i, i < H.size → i ≠ r → H1[i]? = H[i]?) → K (some ⟨r, 0, none⟩) (n + m) c H1) → stCs ((⟨r, 0, none⟩ : Addr).add (n * z)) H i us (fun H1 => K (some ⟨r, 0, none⟩) (n + m) c H1) := by
        intro us
        induction us with
        | nil =>
          intro H i cs L _ hl k
          simp only [List.append_nil, List.length_nil, Nat.add_zero, List.take_append_drop] at k
          exact k H L (Nat.le_refl _) (fun _ _ _ => rfl)
        | cons v us ih =>
          intro H i cs L hc hl k
          simp only [stCs]
          have hi : n * z + i < cs.length := by simp at hl; omega
          rw [add_add', add_mk, Nat.zero_add]
          have hb := (L.cell 0 _ _ _ rfl).2
          refine st1_of hb (List.getElem?_eq_getElem hi) (hc v (List.mem_cons_self ..)) ?_
          intro H1 u1
          have L1 := Loc.upd L 0 rfl u1
          refine ih H1 (i + 1) (cs.set (n * z + i) v) L1 (fun v hv => hc v (List.mem_cons_of_mem _ hv)) (by simp at hl ⊢; omega) ?_
          intro H2 L2 sz sm
          refine k H2 ?_ (Nat.le_trans u1.size sz) (fun i hi hn => (sm i (Nat.lt_of_lt_of_le hi u1.size) hn).trans (u1.same i hi hn))
          have e : (cs.set (n * z + i) v).take (n * z + (i + 1)) ++ us ++ (cs.set (n * z + i) v).drop (n * z + (i + 1) + us.length) = cs.take (n * z + i) ++ (v :: us) ++ cs.drop (n * z + i + (v :: us).length) := by
            rw [show n * z + (i + 1) = n * z + i + 1 from by omega, List.take_add_one, List.take_set_of_le (by omega)]
            simp only [List.getElem?_set_self hi, Option.toList_some]
            rw [List.drop_set_of_lt (by omega)]
            simp only [List.append_assoc, List.singleton_append, List.cons_append, List.nil_append, List.length_cons, List.append_cancel_left_eq]
            rw [show n * z + i + 1 + us.length = n * z + i + (us.length + 1) from by omega]
          rwa [e] at L2
      refine key us H 0 (vs ++ sp) L hcell (by simp; omega) ?_
      intro H1 L1 sz sm
      refine k _ _ _ ?_ sz (fun i hi hn => ⟨sm i hi (fun he => hn (by rw [he])), hn⟩)
      have e : (vs ++ sp).take (n * z + 0) ++ us ++ (vs ++ sp).drop (n * z + 0 + us.length) = (vs ++ us) ++ sp.drop us.length := by
        rw [Nat.add_zero, ← h1, List.take_left, List.drop_append]
        simp
      rw [e] at L1
      refine .mk L1 (by simp [h1, hu, Nat.add_mul]) ?_ h
      simp [h2, hu, ← Nat.sub_mul]
      congr 1
      omega
    · exact Nat.le_trans (Nat.mul_le_mul_right _ (nextcap_le h)) hs
    · have hr := (L.cell 0 _ _ _ rfl).2
      rw [add_mk, Nat.zero_add]
      refine hcell_of hr ?_
      rw [List.getElem?_append_left]
      · exact hj
      · rcases Nat.lt_or_ge j vs.length with h | h
        · exact h
        · rw [List.getElem?_eq_none h] at hj; cases hj
    · exact k _ _ _ (.mk (L.tail.push _ _) (by simp [h1, hu, Nat.add_mul]) (by rw [hrep]) hcap) (ExtH.push _ _).size (fun i hi _ => ⟨(ExtH.push _ _).block i hi, by simp; omega⟩)
/-- The slice at last: rows of records, in blocks made since. -/
theorem Gro.rows {α : Type} {f : α → List Value} {l : List α} (g : Gro H0 H b E z p n c (l.flatMap f)) (hz : ∀ x, (f x).length = z) (hz0 : 0 < z) : RowsAt f z H p l ∧ l.length = n := by
  have hl : l.length * z = n * z := by rw [← flat_length hz l]; exact g.len
  refine ⟨?_, Nat.eq_of_mul_eq_mul_right hz0 hl⟩
  generalize hvs : l.flatMap f = vs at g
  cases g with
  | nil L =>
    left
    cases l with
    | nil => rfl
    | cons x l => simp [Nat.succ_mul] at hl; omega
  | mk L h1 h2 h3 =>
    refine RowsAt.of_block (L.cell 0 _ _ _ rfl).2 ?_
    intro i x hi j v hj
    rw [← hvs]
    exact flat_get hz l _ i x hi j v hj
end
/-- The bytes of a text, in a block of their own. -/
def Str (H : Heap) (r : Nat) (s : ByteArray) : Prop := r < H.size ∧ ∀ j v, (bytesOf s.data.toList)[j]? = some v → hcell H ⟨r, j, none⟩ = some v
theorem Str.ext {H H1 : Heap} {r : Nat} {s : ByteArray} (h : Str H r s) (e : ExtH H H1) : Str H1 r s := ⟨Nat.lt_of_lt_of_le h.1 e.size, fun j v hj => e.cell (h.2 j v hj)⟩
theorem hcell_same {H H1 : Heap} {a : Addr} (h : H1[a.block]? = H[a.block]?) : hcell H1 a = hcell H a := by unfold hcell; rw [h]
theorem Str.same {H H1 : Heap} {r : Nat} {s : ByteArray} (h : Str H r s) (hs : H.size ≤ H1.size) (e : H1[r]? = H[r]?) : Str H1 r s :=
  ⟨Nat.lt_of_lt_of_le h.1 hs, fun j v hj => (hcell_same (a := ⟨r, j, none⟩) e).trans (h.2 j v hj)⟩
theorem Loc.sb {H0 H : Heap} {l : List Blk} (L : Loc H0 H l) {E : TypeId} {s : ByteArray} {K : Nat → Nat → Heap → Prop} (hs : s.size < 2 ^ 63) (k : ∀ r c H1, ExtH H H1 → r = H.size → Loc H0 H1 l → Str H1 r s → K r c H1) : sbD H E s K := by
  refine ⟨hs, fun cap hcap => ?_⟩
  refine k _ _ _ (ExtH.push _ _) rfl (L.extend (ExtH.push _ _)) ⟨by rw [Array.size_push]; omega, fun j v hj => ?_⟩
  refine hcell_of (H := H.push _) (fr := (cap, cap + 1)) (by rw [Array.getElem?_push, if_pos rfl]) ?_
  rw [List.getElem?_append_left]
  · exact hj
  · rcases Nat.lt_or_ge j (bytesOf s.data.toList).length with h | h
    · exact h
    · rw [List.getElem?_eq_none h] at hj; cases hj
theorem bsD_i {H : Heap} {r : Nat} {s : ByteArray} {k : ByteArray → Prop} (h : Str H r s) (hk : k s) : bsD H (some ⟨r, 0, none⟩) s.size k := by
  refine ⟨s.data.toList, Array.length_toList, fun j v hj => ⟨_, rfl, ?_⟩, ?_⟩
  · rw [add_mk, Nat.zero_add]; exact h.2 j v hj
  · have : (⟨⟨s.data.toList⟩⟩ : ByteArray) = s := by cases s; rfl
    rw [this]; exact hk
/-- A call that tells yes or no, and leaves what was there. -/
def Tells (H : Heap) : Ending → Heap → Prop := fun e H' => (∃ b, e = .returned (.bool b)) ∧ ExtH H H'
/-- What is not among S stays. -/
structure Chg (S : Nat → Prop) (H H' : Heap) : Prop where
  size : H.size ≤ H'.size
  same : ∀ i, i < H.size → ¬ S i → H'[i]? = H[i]?
section
variable {S : Nat → Prop} {A B C : Heap}
theorem Chg.refl : Chg S A A := ⟨Nat.le_refl _, fun _ _ _ => rfl⟩
theorem Chg.trans (h : Chg S A B) (k : Chg S B C) : Chg S A C := ⟨Nat.le_trans h.size k.size, fun i hi hs => (k.same i (Nat.lt_of_lt_of_le hi h.size) hs).trans (h.same i hi hs)⟩
theorem Chg.of_ext (h : ExtH A B) : Chg S A B := ⟨h.size, fun i hi _ => h.block i hi⟩
theorem Chg.mono {S' : Nat → Prop} (h : Chg S A B) (hs : ∀ i, S i → S' i) : Chg S' A B := ⟨h.size, fun i hi hn => h.same i hi fun hh => hn (hs i hh)⟩
theorem Chg.upd {r : Nat} {o : Obj} (h : Upd r o A B) (hr : S r) : Chg S A B := ⟨h.size, fun i hi hn => h.same i hi fun he => hn (he ▸ hr)⟩
theorem Chg.block {r : Nat} {o : Obj} (h : Chg S A B) (hr : ¬ S r) (hb : A[r]? = some o) : B[r]? = some o := (h.same r (block_lt hb) hr).trans hb
theorem Chg.ext (h : Chg S A B) (hs : ∀ i, S i → A.size ≤ i) : ExtH A B := ⟨h.size, fun i hi => h.same i hi fun hh => by have := hs i hh; omega⟩
end
end Go.Den
