/- A plain reading of Go functions, proved to be what they do; no condition. -/
/- The state of a walk: what was there is unturned but for a footprint; and blocks that are known whole. -/
import Derived.Test.YtobolifgehagfaaGreatDenB
set_option linter.unusedVariables false
set_option linter.unusedSimpArgs false
namespace Go.Den
open Go

theorem GoL.mono {P : Program} {f : FuncId} {n : Nat} {todo : List Item} {live : List Nat} {vals : List Value} {H : Heap} {R R' : Ending → Heap → Prop} (h : GoL P f n todo live vals H R) (hr : ∀ e H', R e H' → R' e H') : GoL P f n todo live vals H R' := by
  intro ρ0 b a cs w hb hk ha hd hw
  obtain ⟨e, w', fr, ⟨h1, h2⟩, h3⟩ := h ρ0 b a cs w hb hk ha hd hw
  exact ⟨e, w', fr, ⟨h1, hr _ _ h2⟩, h3⟩
abbrev Bk := Nat × Obj
/-- Since F only blocks of S have turned; the blocks of l, of S or made since, hold what l says. -/
structure St (F : Heap) (S : Nat → Prop) (H : Heap) (l : List Bk) : Prop where
  chg : Chg S F H
  own : ∀ (i r : Nat) (o : Obj), l[i]? = some (r, o) → (S r ∨ F.size ≤ r) ∧ H[r]? = some o
  apart : ∀ (i j : Nat) (x y : Bk), l[i]? = some x → l[j]? = some y → x.1 = y.1 → i = j
def Nn : Nat → Prop := fun _ => False
section
variable {P : Program} {F H H1 : Heap} {S : Nat → Prop} {l : List Bk}
theorem St.start (H : Heap) : St H Nn H [] := ⟨Chg.refl, by simp, by simp⟩
theorem St.starts (H : Heap) (S : Nat → Prop) : St H S H [] := ⟨Chg.refl, by simp, by simp⟩
theorem St.ext (L : St F Nn H l) : ExtH F H := L.chg.ext (fun i h => h.elim)
theorem St.mono {S' : Nat → Prop} (L : St F S H l) (h : ∀ i, S i → S' i) : St F S' H l := ⟨L.chg.mono h, fun i r o hi => ⟨(L.own i r o hi).1.imp (h r) id, (L.own i r o hi).2⟩, L.apart⟩
theorem St.lt (L : St F S H l) {i r : Nat} {o : Obj} (hi : l[i]? = some (r, o)) : r < H.size := block_lt (L.own i r o hi).2
theorem St.ne (L : St F S H l) {i j r r' : Nat} {o o' : Obj} (hi : l[i]? = some (r, o)) (hj : l[j]? = some (r', o')) (hij : i ≠ j) : r ≠ r' := fun h => hij (L.apart i j _ _ hi hj h)
theorem St.far (L : St F Nn H l) {p : Option Addr} (hp : ∀ i, p = some ⟨i, 0, none⟩ → i < F.size) (i : Nat) {r : Nat} {o : Obj} (hi : l[i]? = some (r, o)) : p ≠ some ⟨r, 0, none⟩ := by
  intro he
  have h1 := hp _ he
  rcases (L.own i r o hi).1 with h2 | h2
  · exact h2
  · omega
theorem St.push (L : St F S H l) (o : Obj) : St F S (H.push o) ((H.size, o) :: l) := by
  refine ⟨L.chg.trans (Chg.of_ext (ExtH.push _ _)), ?_, ?_⟩
  · intro i r ob h
    cases i with
    | zero => simp at h; obtain ⟨rfl, rfl⟩ := h; exact ⟨.inr L.chg.size, by rw [Array.getElem?_push, if_pos rfl]⟩
    | succ i =>
      have := L.own i r ob (by simpa using h)
      exact ⟨this.1, (ExtH.push H _).block_some this.2⟩
  · intro i j x y hi hj he
    cases i with
    | zero => cases j with
      | zero => rfl
      | succ j =>
        simp at hi hj
        subst hi
        have := L.lt (i := j) (r := y.1) (o := y.2) (by simpa using hj)
        simp at he
        omega
    | succ i => cases j with
      | zero =>
        simp at hi hj
        subst hj
        have := L.lt (i := i) (r := x.1) (o := x.2) (by simpa using hi)
        simp at he
        omega
      | succ j =>
        simp at hi hj
        rw [L.apart i j x y hi hj he]
theorem St.new (L : St F S H l) {o : Obj} {K : Nat → Heap → Prop} (k : ∀ r H1, St F S H1 ((r, o) :: l) → K r H1) : newD H o K := k _ _ (L.push o)
theorem St.new' (L : St F S H l) {o : Obj} {K : Nat → Heap → Prop} (k : ∀ r H1, r = H.size → ExtH H H1 → St F S H1 ((r, o) :: l) → K r H1) : newD H o K := k _ _ rfl (ExtH.push _ _) (L.push o)
theorem St.extend (L : St F S H l) (h : ExtH H H1) : St F S H1 l :=
  ⟨L.chg.trans (Chg.of_ext h), fun i r o hi => ⟨(L.own i r o hi).1, h.block_some (L.own i r o hi).2⟩, L.apart⟩
/-- A change that leaves the listed blocks. -/
theorem St.chgs (L : St F S H l) {S' : Nat → Prop} (h : Chg S' H H1) (hs : ∀ i, S' i → S i ∨ F.size ≤ i) (hl : ∀ (i r : Nat) (o : Obj), l[i]? = some (r, o) → ¬ S' r) : St F S H1 l :=
  ⟨⟨Nat.le_trans L.chg.size h.size, fun i hi hn => (h.same i (Nat.lt_of_lt_of_le hi L.chg.size) (fun hh => by rcases hs i hh with h1 | h1 <;> first | exact hn h1 | omega)).trans (L.chg.same i hi hn)⟩,
    fun i r o hi => ⟨(L.own i r o hi).1, h.block (hl i r o hi) (L.own i r o hi).2⟩, L.apart⟩
theorem St.at_ (L : St F S H l) (i : Nat) {r : Nat} {cs : List Value} {T : TypeId} {fr : Nat × Nat} {j : Nat} {v : Value} (hi : l[i]? = some (r, .cells ⟨cs⟩ T fr)) (hj : cs[j]? = some v) : hcell H ⟨r, j, none⟩ = some v := hcell_of (L.own i r _ hi).2 hj
theorem St.int (L : St F S H l) (i : Nat) {r : Nat} {cs : List Value} {T : TypeId} {fr : Nat × Nat} {j : Nat} {kd : IntKind} {n : Int} {K : Int → Prop} (hi : l[i]? = some (r, .cells ⟨cs⟩ T fr)) (hj : cs[j]? = some (.int kd n)) (k : K n) : ldInt H ⟨r, j, none⟩ kd K := ⟨n, L.at_ i hi hj, k⟩
theorem St.bool (L : St F S H l) (i : Nat) {r : Nat} {cs : List Value} {T : TypeId} {fr : Nat × Nat} {j : Nat} {n : Bool} {K : Bool → Prop} (hi : l[i]? = some (r, .cells ⟨cs⟩ T fr)) (hj : cs[j]? = some (.bool n)) (k : K n) : ldBool H ⟨r, j, none⟩ K := ⟨n, L.at_ i hi hj, k⟩
theorem St.str (L : St F S H l) (i : Nat) {r : Nat} {cs : List Value} {T : TypeId} {fr : Nat × Nat} {j : Nat} {n : ByteArray} {K : ByteArray → Prop} (hi : l[i]? = some (r, .cells ⟨cs⟩ T fr)) (hj : cs[j]? = some (.string n)) (k : K n) : ldStr H ⟨r, j, none⟩ K := ⟨n, L.at_ i hi hj, k⟩
theorem St.ptr (L : St F S H l) (i : Nat) {r : Nat} {cs : List Value} {T : TypeId} {fr : Nat × Nat} {j : Nat} {n : Option Addr} {K : Option Addr → Prop} (hi : l[i]? = some (r, .cells ⟨cs⟩ T fr)) (hj : cs[j]? = some (.pointer n)) (k : K n) : ldPtr H ⟨r, j, none⟩ K := ⟨n, L.at_ i hi hj, k⟩
theorem St.sl (L : St F S H l) (i : Nat) {r : Nat} {cs : List Value} {T : TypeId} {fr : Nat × Nat} {j : Nat} {p : Option Addr} {n c : Nat} {K : Option Addr → Nat → Nat → Prop} (hi : l[i]? = some (r, .cells ⟨cs⟩ T fr)) (hj : cs[j]? = some (.slice p n c)) (k : K p n c) : ldSl H ⟨r, j, none⟩ K := ⟨p, n, c, L.at_ i hi hj, k⟩
theorem St.map (L : St F S H l) (i : Nat) {r : Nat} {cs : List Value} {T : TypeId} {fr : Nat × Nat} {j : Nat} {n : Option Nat} {K : Option Nat → Prop} (hi : l[i]? = some (r, .cells ⟨cs⟩ T fr)) (hj : cs[j]? = some (.map n)) (k : K n) : ldMap H ⟨r, j, none⟩ K := ⟨n, L.at_ i hi hj, k⟩
theorem St.ifv (L : St F S H l) (i : Nat) {r : Nat} {cs : List Value} {T : TypeId} {fr : Nat × Nat} {j : Nat} {n : IV} {K : IV → Prop} (hi : l[i]? = some (r, .cells ⟨cs⟩ T fr)) (hj : cs[j]? = some n.v) (k : K n) : ldIf H ⟨r, j, none⟩ K := ⟨n, L.at_ i hi hj, k⟩
theorem St.ifmk (L : St F S H l) (i : Nat) {r : Nat} {cs : List Value} {T : TypeId} {fr : Nat × Nat} {j : Nat} {t : TypeId} {x : Value} {K : IV → Prop} (hi : l[i]? = some (r, .cells ⟨cs⟩ T fr)) (hj : cs[j]? = some (.iface t x)) (k : K (.mk t x)) : ldIf H ⟨r, j, none⟩ K := ⟨.mk t x, L.at_ i hi hj, k⟩
theorem St.ifnil (L : St F S H l) (i : Nat) {r : Nat} {cs : List Value} {T : TypeId} {fr : Nat × Nat} {j : Nat} {K : IV → Prop} (hi : l[i]? = some (r, .cells ⟨cs⟩ T fr)) (hj : cs[j]? = some .nilIface) (k : K .nil) : ldIf H ⟨r, j, none⟩ K := ⟨.nil, L.at_ i hi hj, k⟩
theorem St.fnv (L : St F S H l) (i : Nat) {r : Nat} {cs : List Value} {T : TypeId} {fr : Nat × Nat} {j : Nat} {n : FV} {K : FV → Prop} (hi : l[i]? = some (r, .cells ⟨cs⟩ T fr)) (hj : cs[j]? = some n.v) (k : K n) : ldFn H ⟨r, j, none⟩ K := ⟨n, L.at_ i hi hj, k⟩
theorem St.fnmk (L : St F S H l) (i : Nat) {r : Nat} {cs : List Value} {T : TypeId} {fr : Nat × Nat} {j : Nat} {fn : Fn} {x y : Array Value} {K : FV → Prop} (hi : l[i]? = some (r, .cells ⟨cs⟩ T fr)) (hj : cs[j]? = some (.func fn x y)) (k : K (.mk fn x y)) : ldFn H ⟨r, j, none⟩ K := ⟨.mk fn x y, L.at_ i hi hj, k⟩
/-- A listed block turns, and nothing else. -/
theorem St.upd (L : St F S H l) (i : Nat) {r : Nat} {o o' : Obj} (hi : l[i]? = some (r, o)) (u : Upd r o' H H1) : St F S H1 (l.set i (r, o')) := by
  have hr := L.own i r o hi
  have hil : i < l.length := by
    rcases Nat.lt_or_ge i l.length with h | h
    · exact h
    · rw [List.getElem?_eq_none h] at hi; cases hi
  refine ⟨⟨Nat.le_trans L.chg.size u.size, fun b hb hn => ?_⟩, ?_, ?_⟩
  · rw [u.same b (Nat.lt_of_lt_of_le hb L.chg.size) (by rintro rfl; rcases hr.1 with h | h <;> first | exact hn h | omega)]; exact L.chg.same b hb hn
  · intro k r' ob hk
    rw [List.getElem?_set] at hk
    split at hk
    · simp [hil] at hk
      obtain ⟨rfl, rfl⟩ := hk
      exact ⟨hr.1, u.at_⟩
    · rename_i hik
      have h1 := L.own k r' ob hk
      have hne : r' ≠ r := fun he => hik (L.apart i k (r, o) (r', ob) hi hk he.symm)
      exact ⟨h1.1, by rw [u.same r' (block_lt h1.2) hne]; exact h1.2⟩
  · intro a b x y ha hb hxy
    have key : ∀ (a : Nat) (x : Bk), (l.set i (r, o'))[a]? = some x → ∃ x', l[a]? = some x' ∧ x'.1 = x.1 := by
      intro a x ha
      rw [List.getElem?_set] at ha
      split at ha
      · rename_i hia
        subst hia
        simp [hil] at ha
        subst ha
        exact ⟨_, hi, rfl⟩
      · exact ⟨x, ha, rfl⟩
    obtain ⟨x', h1, h2⟩ := key a x ha
    obtain ⟨y', h3, h4⟩ := key b y hb
    exact L.apart a b x' y' h1 h3 (by rw [h2, h4, hxy])
theorem St.st (L : St F S H l) (i : Nat) {r : Nat} {cs : List Value} {T : TypeId} {j : Nat} {u v : Value} {K : Heap → Prop} (hi : l[i]? = some (r, .cells ⟨cs⟩ T)) (hj : cs[j]? = some u) (hv : isCell v = true)
    (k : ∀ H1, St F S H1 (l.set i (r, .cells ⟨cs.set j v⟩ T)) → K H1) : st1 H ⟨r, j, none⟩ v K :=
  st1_of (L.own i r _ hi).2 hj hv fun H1 u => k H1 (L.upd i hi u)
theorem St.call (L : St F S H l) {f : FuncId} {args : List Value} {v : Value} {Q : List PanicEntry → Heap → Prop} {K : Value → Heap → Prop} (hc : CallsH P f ⟨args⟩ H (Gives v H)) (k : ∀ H1, ExtH H H1 → St F S H1 l → K v H1) : callD P f args H Q K :=
  CallsH.mono hc fun e H1 ⟨he, hx⟩ => by subst he; exact k H1 hx (L.extend hx)
theorem St.tells (L : St F S H l) {f : FuncId} {args : List Value} {Q : List PanicEntry → Heap → Prop} {K : Value → Heap → Prop} (hc : CallsH P f ⟨args⟩ H (Tells H)) (k : ∀ b H1, ExtH H H1 → St F S H1 l → K (.bool b) H1) : callD P f args H Q K :=
  CallsH.mono hc fun e H1 ⟨⟨b, he⟩, hx⟩ => by subst he; exact k b H1 hx (L.extend hx)
theorem St.tail {x : Bk} (L : St F S H (x :: l)) : St F S H l :=
  ⟨L.chg, fun i r o h => L.own (i + 1) r o (by simpa using h), fun i j x y hi hj he => by have := L.apart (i + 1) (j + 1) x y (by simpa using hi) (by simpa using hj) he; omega⟩
/-- Only some of the blocks, in any order. -/
theorem St.pick (L : St F S H l) (is : List Nat) (hn : is.Nodup) {l' : List Bk} (h : l' = is.filterMap fun i => l[i]?) (hl : l'.length = is.length) : St F S H l' := by
  subst h
  have key : ∀ (is : List Nat), (is.filterMap fun i => l[i]?).length = is.length → ∀ (k : Nat) (x : Bk), (is.filterMap fun i => l[i]?)[k]? = some x → ∃ i, is[k]? = some i ∧ l[i]? = some x := by
    intro is
    induction is with
    | nil => intro _ k x h; simp at h
    | cons a is ih =>
      intro hl k x h
      rw [List.filterMap_cons] at hl h
      cases ha : l[a]? with
      | none =>
        rw [ha] at hl
        have := List.length_filterMap_le (fun i => l[i]?) is
        simp only [List.length_cons] at hl
        omega
      | some y =>
        rw [ha] at hl h
        replace hl := Nat.succ.inj hl
        cases k with
        | zero => simp at h; exact ⟨a, rfl, by rw [ha, h]⟩
        | succ k => obtain ⟨i, h1, h2⟩ := ih hl k x (by simpa using h); exact ⟨i, by simpa using h1, h2⟩
  refine ⟨L.chg, fun i r o hi => ?_, fun i j x y hi hj he => ?_⟩
  · obtain ⟨k, _, h2⟩ := key is hl i _ hi
    exact L.own k r o h2
  · obtain ⟨a, h1, h2⟩ := key is hl i x hi
    obtain ⟨b, h3, h4⟩ := key is hl j y hj
    have hab := L.apart a b x y h2 h4 he
    subst hab
    exact (List.getElem?_inj (by rcases Nat.lt_or_ge i is.length with h | h
                                 · exact h
                                 · rw [List.getElem?_eq_none h] at h1; cases h1) hn).1 (h1.trans h3.symm)
/-- A block is taken up: of the footprint, or new. -/
theorem St.take (L : St F S H l) {r : Nat} {o : Obj} (hs : S r ∨ F.size ≤ r) (hr : H[r]? = some o) (hl : ∀ (i r' : Nat) (o' : Obj), l[i]? = some (r', o') → r' ≠ r) : St F S H ((r, o) :: l) := by
  refine ⟨L.chg, fun i r' o' hi => ?_, fun i j x y hi hj he => ?_⟩
  · cases i with
    | zero => simp at hi; obtain ⟨rfl, rfl⟩ := hi; exact ⟨hs, hr⟩
    | succ i => exact L.own i r' o' (by simpa using hi)
  · cases i with
    | zero => cases j with
      | zero => rfl
      | succ j => simp at hi hj; subst hi; exact absurd he.symm (hl j y.1 y.2 (by simpa using hj))
    | succ i => cases j with
      | zero => simp at hi hj; subst hj; exact absurd he (hl i x.1 x.2 (by simpa using hi))
      | succ j => simp at hi hj; rw [L.apart i j x y hi hj he]
theorem St.make (L : St F S H l) {bytes : Nat} {zs : List Value} {E : TypeId} {a c : Int} {K : Nat → Nat → Nat → Heap → Prop} (hb : bytes ≠ 0) (h0 : 0 ≤ a) (h1 : a ≤ c) (h2 : (bytes : Int) * c ≤ 2 ^ 48)
    (k : ∀ r H1, ExtH H H1 → St F S H1 ((r, .cells ⟨repZ zs c.toNat⟩ E) :: l) → K r a.toNat c.toNat H1) : mkD H bytes zs E a c K := ⟨hb, h0, h1, h2, k _ _ (ExtH.push _ _) (L.push _)⟩
/-- The block of a text's bytes. -/
def strObj (s : ByteArray) (c : Nat) : Obj := .cells ⟨bytesOf s.data.toList ++ List.replicate (c - s.size) (.int .u8 0)⟩ 5 (c, c + 1)
theorem Str.of {r : Nat} {s : ByteArray} {sp : List Value} {T : TypeId} {fr : Nat × Nat} (h : H[r]? = some (.cells ⟨bytesOf s.data.toList ++ sp⟩ T fr)) : Str H r s := by
  refine ⟨block_lt h, fun j v hj => hcell_of h ?_⟩
  rw [List.getElem?_append_left]
  · exact hj
  · rcases Nat.lt_or_ge j (bytesOf s.data.toList).length with h | h
    · exact h
    · rw [List.getElem?_eq_none h] at hj; cases hj
theorem St.sb (L : St F S H l) {E : TypeId} {s : ByteArray} {K : Nat → Nat → Heap → Prop} (hs : s.size < 2 ^ 63) (k : ∀ r c H1, s.size ≤ c → St F S H1 ((r, .cells ⟨bytesOf s.data.toList ++ List.replicate (c - s.size) (.int .u8 0)⟩ E (c, c + 1)) :: l) → K r c H1) : sbD H E s K :=
  ⟨hs, fun cap hcap => k _ _ _ hcap (L.push _)⟩
end
theorem repZ_length (zs : List Value) (k : Nat) : (repZ zs k).length = k * zs.length := by
  have : (⟨repZ zs k⟩ : Array Value) = ⟨(List.replicate k zs).flatten⟩ := (repZ_spec zs k).trans (range_rep zs k)
  injection this with this
  rw [this]
  simp [List.length_flatten]
/-- A slice that the call grows: nil, or a block of its own, which heads the list of blocks. -/
inductive Grow (F : Heap) (S : Nat → Prop) (H : Heap) (b : List Bk) (E : TypeId) (z : Nat) : Option Addr → Nat → Nat → List Value → Prop
  | nil : St F S H b → Grow F S H b E z none 0 0 []
  | mk {r n c : Nat} {vs sp : List Value} : St F S H ((r, .cells ⟨vs ++ sp⟩ E) :: b) → vs.length = n * z → sp.length = (c - n) * z → n ≤ c → Grow F S H b E z (some ⟨r, 0, none⟩) n c vs
/-- Between two heaps a slice has grown: other blocks are as they were. -/
structure Grown (p p' : Option Addr) (H H1 : Heap) : Prop where
  size : H.size ≤ H1.size
  same : ∀ i, i < H.size → p ≠ some ⟨i, 0, none⟩ → H1[i]? = H[i]? ∧ p' ≠ some ⟨i, 0, none⟩
section
variable {F H H1 : Heap} {S : Nat → Prop} {b : List Bk} {E : TypeId} {z : Nat} {p : Option Addr} {n c : Nat} {vs : List Value}
theorem Grow.extend (g : Grow F S H b E z p n c vs) (e : ExtH H H1) : Grow F S H1 b E z p n c vs := by
  cases g with
  | nil L => exact .nil (L.extend e)
  | mk L h1 h2 h3 => exact .mk (L.extend e) h1 h2 h3
theorem Grow.st (g : Grow F S H b E z p n c vs) : St F S H b := by
  cases g with
  | nil L => exact L
  | mk L h1 h2 h3 => exact L.tail
theorem Grow.len (g : Grow F S H b E z p n c vs) : vs.length = n * z := by
  cases g with
  | nil L => simp
  | mk L h1 h2 h3 => exact h1
theorem Grow.lt (g : Grow F S H b E z p n c vs) {i : Nat} (h : p = some ⟨i, 0, none⟩) : i < H.size := by
  cases g with
  | nil L => cases h
  | mk L h1 h2 h3 => injection h with h; injection h with h; subst h; exact L.lt (i := 0) rfl
theorem Grow.what (g : Grow F S H b E z p n c vs) : (p = none ∧ n = 0 ∧ c = 0 ∧ vs = []) ∨ ∃ r sp, p = some ⟨r, 0, none⟩ ∧ vs.length = n * z ∧ n ≤ c ∧ H[r]? = some (.cells ⟨vs ++ sp⟩ E) ∧ (S r ∨ F.size ≤ r) := by
  cases g with
  | nil L => exact .inl ⟨rfl, rfl, rfl, rfl⟩
  | mk L h1 h2 h3 => exact .inr ⟨_, _, rfl, h1, h3, (L.own 0 _ _ rfl).2, (L.own 0 _ _ rfl).1⟩
theorem Grow.from_ (g : Grow F S H b E z p n c vs) {i : Nat} (h : p = some ⟨i, 0, none⟩) : S i ∨ F.size ≤ i := by
  cases g with
  | nil L => cases h
  | mk L h1 h2 h3 => injection h with h; injection h with h; subst h; exact (L.own 0 _ _ rfl).1
/-- Append to a slice of one's own. -/
theorem Grow.app (g : Grow F S H b E z p n c vs) {bytes m : Nat} {zs us : List Value} {K : Option Addr → Nat → Nat → Heap → Prop} (hz : zs.length = z) (hb : bytes ≠ 0) (hs : (2 * (n + m) + 768) * bytes ≤ 2 ^ 48) (hu : us.length = m * z) (hm : 0 < m) (hcell : ∀ v ∈ us, isCell v = true)
    (k : ∀ p' c' H1, Grow F S H1 b E z p' (n + m) c' (vs ++ us) → Grown p p' H H1 → K p' (n + m) c' H1) : apV H z bytes zs E p n c m us K := by
  cases g with
  | nil L =>
    refine ⟨fun h => by omega, fun _ => ⟨hb, ?_, [], by simp, fun j v h => by simp at h, fun cap hcap => ?_⟩⟩
    · exact Nat.le_trans (Nat.mul_le_mul_right _ (nextcap_le (by omega))) hs
    · exact k _ _ _ (.mk (L.push _) (by simpa using hu) (by rw [repZ_length, hz]) hcap) ⟨(ExtH.push _ _).size, fun i hi _ => ⟨(ExtH.push _ _).block i hi, by simp; omega⟩⟩
  | mk L h1 h2 h3 =>
    rename_i r sp
    refine ⟨fun h => ?_, fun h => ⟨hb, ?_, vs, h1, fun j v hj => ⟨_, rfl, ?_⟩, fun cap hcap => ?_⟩⟩
    · show stCs _ H 0 us _
      have hl : us.length ≤ sp.length := by rw [hu, h2]; exact Nat.mul_le_mul_right _ (by omega)
      have key : ∀ (us : List Value) (H : Heap) (i : Nat) (cs : List Value), St F S H ((r, .cells ⟨cs⟩ E) :: b) → (∀ v ∈ us, isCell v = true) → n * z + i + us.length ≤ cs.length →
          (∀ H1, St F S H1 ((r, .cells ⟨cs.take (n * z + i) ++ us ++ cs.drop (n * z + i + us.length)⟩ E) :: b) → H.size ≤ H1.size → (∀ i, i < H.size → i ≠ r → H1[i]? = H[i]?) → K (some ⟨r, 0, none⟩) (n + m) c H1) → stCs ((⟨r, 0, none⟩ : Addr).add (n * z)) H i us (fun H1 => K (some ⟨r, 0, none⟩) (n + m) c H1) := by
        intro us
        induction us with
        | nil =>
          intro H i cs L _ hl k
          simp only [List.append_nil, List.length_nil, Nat.add_zero, List.take_append_drop] at k
          exact k H L (Nat.le_refl _) (fun _ _ _ => rfl)
        | cons v us ih =>
          intro H i cs L hc hl k
          simp only [stCs]
          have hi : n * z + i < cs.length := by simp at hl; omega
          rw [add_add', add_mk, Nat.zero_add]
          refine st1_of (L.own 0 _ _ rfl).2 (List.getElem?_eq_getElem hi) (hc v (List.mem_cons_self ..)) ?_
          intro H1 u1
          have L1 := St.upd L 0 rfl u1
          refine ih H1 (i + 1) (cs.set (n * z + i) v) L1 (fun v hv => hc v (List.mem_cons_of_mem _ hv)) (by simp at hl ⊢; omega) ?_
          intro H2 L2 sz sm
          refine k H2 ?_ (Nat.le_trans u1.size sz) (fun i hi hn => (sm i (Nat.lt_of_lt_of_le hi u1.size) hn).trans (u1.same i hi hn))
          have e : (cs.set (n * z + i) v).take (n * z + (i + 1)) ++ us ++ (cs.set (n * z + i) v).drop (n * z + (i + 1) + us.length) = cs.take (n * z + i) ++ (v :: us) ++ cs.drop (n * z + i + (v :: us).length) := by
            rw [show n * z + (i + 1) = n * z + i + 1 from by omega, List.take_add_one, List.take_set_of_le (by omega)]
            simp only [List.getElem?_set_self hi, Option.toList_some]
            rw [List.drop_set_of_lt (by omega)]
            simp only [List.append_assoc, List.singleton_append, List.cons_append, List.nil_append, List.length_cons, List.append_cancel_left_eq]
            rw [show n * z + i + 1 + us.length = n * z + i + (us.length + 1) from by omega]
          rwa [e] at L2
      refine key us H 0 (vs ++ sp) L hcell (by simp; omega) ?_
      intro H1 L1 sz sm
      refine k _ _ _ ?_ ⟨sz, fun i hi hn => ⟨sm i hi (fun he => hn (by rw [he])), hn⟩⟩
      have e : (vs ++ sp).take (n * z + 0) ++ us ++ (vs ++ sp).drop (n * z + 0 + us.length) = (vs ++ us) ++ sp.drop us.length := by
        rw [Nat.add_zero, ← h1, List.take_left, List.drop_append]
        simp
      rw [e] at L1
      refine .mk L1 (by simp [h1, hu, Nat.add_mul]) ?_ h
      simp [h2, hu, ← Nat.sub_mul]
      congr 1
      omega
    · exact Nat.le_trans (Nat.mul_le_mul_right _ (nextcap_le h)) hs
    · have hr := (L.own 0 _ _ rfl).2
      rw [add_mk, Nat.zero_add]
      refine hcell_of hr ?_
      rw [List.getElem?_append_left]
      · exact hj
      · rcases Nat.lt_or_ge j vs.length with h | h
        · exact h
        · rw [List.getElem?_eq_none h] at hj; cases hj
    · exact k _ _ _ (.mk (L.tail.push _) (by simp [h1, hu, Nat.add_mul]) (by rw [repZ_length, hz]) hcap) ⟨(ExtH.push _ _).size, fun i hi _ => ⟨(ExtH.push _ _).block i hi, by simp; omega⟩⟩
/-- The slice at last: rows of records, in blocks made since. -/
theorem Grow.rows {α : Type} {f : α → List Value} {l : List α} (g : Grow F S H b E z p n c (l.flatMap f)) (hz : ∀ x, (f x).length = z) (hz0 : 0 < z) : RowsAt f z H p l ∧ l.length = n := by
  have hl : l.length * z = n * z := by rw [← flat_length hz l]; exact g.len
  refine ⟨?_, Nat.eq_of_mul_eq_mul_right hz0 hl⟩
  generalize hvs : l.flatMap f = vs at g
  cases g with
  | nil L =>
    left
    cases l with
    | nil => rfl
    | cons x l => simp [Nat.succ_mul] at hl; omega
  | mk L h1 h2 h3 =>
    refine RowsAt.of_block (L.own 0 _ _ rfl).2 ?_
    intro i x hi j v hj
    rw [← hvs]
    exact flat_get hz l _ i x hi j v hj
end
end Go.Den
