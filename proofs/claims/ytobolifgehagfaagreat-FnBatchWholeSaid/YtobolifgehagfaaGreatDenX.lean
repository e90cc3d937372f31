/- A plain reading of Go functions, proved to be what they do; no condition. -/
/- Proofs over texts run through: the blocks that a function made itself, and all that was there before. -/
import Derived.Test.YtobolifgehagfaaGreatDenW
set_option linter.unusedVariables false
set_option linter.unusedSimpArgs false
namespace Go.Den
open Go

abbrev Blk := Nat × List Value × TypeId
/-- Since H0 nothing that was there has turned; and the blocks of l, made since, hold what l says. -/
structure Loc (H0 H : Heap) (l : List Blk) : Prop where
  ext : ExtH H0 H
  cell : ∀ (i : Nat) (r : Nat) (cs : List Value) (T : TypeId), l[i]? = some (r, cs, T) → H0.size ≤ r ∧ H[r]? = some (.cells ⟨cs⟩ T)
  apart : ∀ (i j : Nat) (x y : Blk), l[i]? = some x → l[j]? = some y → x.1 = y.1 → i = j
section
variable {P : Program} {H0 H : Heap} {l : List Blk}
theorem Loc.start (H : Heap) : Loc H H [] := ⟨ExtH.refl H, by simp, by simp⟩
theorem Loc.push (L : Loc H0 H l) (cs : List Value) (T : TypeId) : Loc H0 (H.push (.cells ⟨cs⟩ T)) ((H.size, cs, T) :: l) := by
  refine ⟨L.ext.trans (ExtH.push _ _), ?_, ?_⟩
  · intro i r ds U h
    cases i with
    | zero => simp at h; obtain ⟨rfl, rfl, rfl⟩ := h; exact ⟨L.ext.size, by simp⟩
    | succ i =>
      have := L.cell i r ds U (by simpa using h)
      exact ⟨this.1, (ExtH.push H _).block_some this.2⟩
  · intro i j x y hi hj he
    cases i with
    | zero => cases j with
      | zero => rfl
      | succ j =>
        simp at hi hj
        subst hi
        have := L.cell j y.1 y.2.1 y.2.2 (by simpa using hj)
        have := block_lt this.2
        simp at he
        omega
    | succ i => cases j with
      | zero =>
        simp at hi hj
        subst hj
        have := L.cell i x.1 x.2.1 x.2.2 (by simpa using hi)
        have := block_lt this.2
        simp at he
        omega
      | succ j =>
        simp at hi hj
        rw [L.apart i j x y hi hj he]
theorem Loc.new (L : Loc H0 H l) {cs : List Value} {T : TypeId} {K : Nat → Heap → Prop} (k : ∀ r H1, Loc H0 H1 ((r, cs, T) :: l) → K r H1) : newD H (.cells ⟨cs⟩ T) K :=
  k _ _ (L.push cs T)
theorem Loc.extend (L : Loc H0 H l) {H1 : Heap} (h : ExtH H H1) : Loc H0 H1 l :=
  ⟨L.ext.trans h, fun i r cs T hi => ⟨(L.cell i r cs T hi).1, h.block_some (L.cell i r cs T hi).2⟩, L.apart⟩
theorem Loc.at_ (L : Loc H0 H l) (i : Nat) {r : Nat} {cs : List Value} {T : TypeId} {j : Nat} {v : Value} (hi : l[i]? = some (r, cs, T)) (hj : cs[j]? = some v) : hcell H ⟨r, j, none⟩ = some v := by
  unfold hcell
  rw [(L.cell i r cs T hi).2]
  simpa using hj
theorem Loc.int (L : Loc H0 H l) (i : Nat) {r : Nat} {cs : List Value} {T : TypeId} {j : Nat} {kd : IntKind} {n : Int} {K : Int → Prop} (hi : l[i]? = some (r, cs, T)) (hj : cs[j]? = some (.int kd n)) (k : K n) : ldInt H ⟨r, j, none⟩ kd K := ⟨n, L.at_ i hi hj, k⟩
theorem Loc.bool (L : Loc H0 H l) (i : Nat) {r : Nat} {cs : List Value} {T : TypeId} {j : Nat} {n : Bool} {K : Bool → Prop} (hi : l[i]? = some (r, cs, T)) (hj : cs[j]? = some (.bool n)) (k : K n) : ldBool H ⟨r, j, none⟩ K := ⟨n, L.at_ i hi hj, k⟩
theorem Loc.str (L : Loc H0 H l) (i : Nat) {r : Nat} {cs : List Value} {T : TypeId} {j : Nat} {n : ByteArray} {K : ByteArray → Prop} (hi : l[i]? = some (r, cs, T)) (hj : cs[j]? = some (.string n)) (k : K n) : ldStr H ⟨r, j, none⟩ K := ⟨n, L.at_ i hi hj, k⟩
theorem Loc.ptr (L : Loc H0 H l) (i : Nat) {r : Nat} {cs : List Value} {T : TypeId} {j : Nat} {n : Option Addr} {K : Option Addr → Prop} (hi : l[i]? = some (r, cs, T)) (hj : cs[j]? = some (.pointer n)) (k : K n) : ldPtr H ⟨r, j, none⟩ K := ⟨n, L.at_ i hi hj, k⟩
theorem Loc.sl (L : Loc H0 H l) (i : Nat) {r : Nat} {cs : List Value} {T : TypeId} {j : Nat} {p : Option Addr} {n c : Nat} {K : Option Addr → Nat → Nat → Prop} (hi : l[i]? = some (r, cs, T)) (hj : cs[j]? = some (.slice p n c)) (k : K p n c) : ldSl H ⟨r, j, none⟩ K := ⟨p, n, c, L.at_ i hi hj, k⟩
theorem Loc.map (L : Loc H0 H l) (i : Nat) {r : Nat} {cs : List Value} {T : TypeId} {j : Nat} {n : Option Nat} {K : Option Nat → Prop} (hi : l[i]? = some (r, cs, T)) (hj : cs[j]? = some (.map n)) (k : K n) : ldMap H ⟨r, j, none⟩ K := ⟨n, L.at_ i hi hj, k⟩
theorem Loc.ifv (L : Loc H0 H l) (i : Nat) {r : Nat} {cs : List Value} {T : TypeId} {j : Nat} {n : IV} {K : IV → Prop} (hi : l[i]? = some (r, cs, T)) (hj : cs[j]? = some n.v) (k : K n) : ldIf H ⟨r, j, none⟩ K := ⟨n, L.at_ i hi hj, k⟩
theorem Loc.ifmk (L : Loc H0 H l) (i : Nat) {r : Nat} {cs : List Value} {T : TypeId} {j : Nat} {t : TypeId} {x : Value} {K : IV → Prop} (hi : l[i]? = some (r, cs, T)) (hj : cs[j]? = some (.iface t x)) (k : K (.mk t x)) : ldIf H ⟨r, j, none⟩ K := ⟨.mk t x, L.at_ i hi hj, k⟩
theorem Loc.ifnil (L : Loc H0 H l) (i : Nat) {r : Nat} {cs : List Value} {T : TypeId} {j : Nat} {K : IV → Prop} (hi : l[i]? = some (r, cs, T)) (hj : cs[j]? = some .nilIface) (k : K .nil) : ldIf H ⟨r, j, none⟩ K := ⟨.nil, L.at_ i hi hj, k⟩
theorem Loc.fnv (L : Loc H0 H l) (i : Nat) {r : Nat} {cs : List Value} {T : TypeId} {j : Nat} {n : FV} {K : FV → Prop} (hi : l[i]? = some (r, cs, T)) (hj : cs[j]? = some n.v) (k : K n) : ldFn H ⟨r, j, none⟩ K := ⟨n, L.at_ i hi hj, k⟩
theorem Loc.fnmk (L : Loc H0 H l) (i : Nat) {r : Nat} {cs : List Value} {T : TypeId} {j : Nat} {fn : Fn} {x y : Array Value} {K : FV → Prop} (hi : l[i]? = some (r, cs, T)) (hj : cs[j]? = some (.func fn x y)) (k : K (.mk fn x y)) : ldFn H ⟨r, j, none⟩ K := ⟨.mk fn x y, L.at_ i hi hj, k⟩

theorem hset_get {a : Addr} {v : Value} {b : Nat} (h : b ≠ a.block) : (hset H a v)[b]? = H[b]? := by
  unfold hset
  rw [Array.getElem?_modify, if_neg (Ne.symm h)]
theorem hset_same {r j : Nat} {cs : List Value} {T : TypeId} {fr : Nat × Nat} {v : Value} (h : H[r]? = some (.cells ⟨cs⟩ T fr)) : (hset H ⟨r, j, none⟩ v)[r]? = some (.cells ⟨cs.set j v⟩ T fr) := by
  unfold hset
  rw [Array.getElem?_modify, if_pos rfl, h]
  simp
theorem hset_size {a : Addr} {v : Value} : (hset H a v).size = H.size := by simp [hset]
theorem Loc.set (L : Loc H0 H l) (i : Nat) {r : Nat} {cs : List Value} {T : TypeId} (hi : l[i]? = some (r, cs, T)) (j : Nat) (v : Value) : Loc H0 (hset H ⟨r, j, none⟩ v) (l.set i (r, cs.set j v, T)) := by
  have hr := L.cell i r cs T hi
  have hil : i < l.length := by
    rcases Nat.lt_or_ge i l.length with h | h
    · exact h
    · rw [List.getElem?_eq_none h] at hi; cases hi
  refine ⟨⟨by rw [hset_size]; exact L.ext.size, fun b hb => ?_⟩, ?_, ?_⟩
  · rw [hset_get (by simp; omega)]; exact L.ext.block b hb
  · intro k r' ds U hk
    rw [List.getElem?_set] at hk
    split at hk
    · rename_i hik
      simp [hil] at hk
      obtain ⟨rfl, rfl, rfl⟩ := hk
      exact ⟨hr.1, hset_same hr.2⟩
    · rename_i hik
      have h1 := L.cell k r' ds U hk
      have hne : r' ≠ r := fun he => hik (L.apart i k (r, cs, T) (r', ds, U) hi hk he.symm)
      exact ⟨h1.1, by rw [hset_get hne]; exact h1.2⟩
  · intro a b x y ha hb hxy
    have key : ∀ (a : Nat) (x : Blk), (l.set i (r, cs.set j v, T))[a]? = some x → ∃ x', l[a]? = some x' ∧ x'.1 = x.1 := by
      intro a x ha
      rw [List.getElem?_set] at ha
      split at ha
      · rename_i hia
        subst hia
        simp [hil] at ha
        subst ha
        exact ⟨_, hi, rfl⟩
      · exact ⟨x, ha, rfl⟩
    obtain ⟨x', h1, h2⟩ := key a x ha
    obtain ⟨y', h3, h4⟩ := key b y hb
    exact L.apart a b x' y' h1 h3 (by rw [h2, h4, hxy])
theorem Loc.frozen (L : Loc H0 H l) (i : Nat) {r : Nat} {cs : List Value} {T : TypeId} {j : Nat} (hi : l[i]? = some (r, cs, T)) : hfrozen H ⟨r, j, none⟩ = false := by
  unfold hfrozen
  rw [(L.cell i r cs T hi).2]
  simp
theorem Loc.st (L : Loc H0 H l) (i : Nat) {r : Nat} {cs : List Value} {T : TypeId} {j : Nat} {u v : Value} {K : Heap → Prop} (hi : l[i]? = some (r, cs, T)) (hj : cs[j]? = some u) (hv : isCell v = true)
    (k : ∀ H1, Loc H0 H1 (l.set i (r, cs.set j v, T)) → K H1) : st1 H ⟨r, j, none⟩ v K :=
  ⟨hv, ⟨u, L.at_ i hi hj⟩, L.frozen i hi, k _ (L.set i hi j v)⟩
theorem isCell_IV (i : IV) : isCell i.v = true := by cases i <;> rfl
theorem isCell_FV (i : FV) : isCell i.v = true := by cases i <;> rfl

/-! ### Calls -/
/-- What a call gives that only reads and makes memory. -/
def Gives (v : Value) (H : Heap) : Ending → Heap → Prop := fun e H' => e = .returned v ∧ ExtH H H'
theorem Loc.call (L : Loc H0 H l) {f : FuncId} {args : List Value} {v : Value} {Q : List PanicEntry → Heap → Prop} {K : Value → Heap → Prop} (hc : CallsH P f ⟨args⟩ H (Gives v H)) (k : ∀ H1, ExtH H H1 → Loc H0 H1 l → K v H1) : callD P f args H Q K :=
  CallsH.mono hc fun e H1 ⟨he, hx⟩ => by subst he; exact k H1 hx (L.extend hx)
theorem callD_i {f : FuncId} {args : List Value} {S : Ending → Heap → Prop} {Q : List PanicEntry → Heap → Prop} {K : Value → Heap → Prop} (hc : CallsH P f ⟨args⟩ H S) (k : ∀ e H1, S e H1 → retK K Q e H1) : callD P f args H Q K := CallsH.mono hc k
theorem callV_i {f : FuncId} {first cap : List Value} {args : List Value} {Q : List PanicEntry → Heap → Prop} {K : Value → Heap → Prop} (hf : fnOk P f = true) (k : callD P f (first ++ args ++ cap) H Q K) : callV P (.func (.func f) ⟨first⟩ ⟨cap⟩) args H Q K := ⟨f, first, cap, rfl, hf, k⟩
theorem tInt_i {kd : IntKind} {n : Int} {k : Int → Prop} (h : k n) : tInt (.int kd n) kd k := ⟨n, rfl, h⟩
theorem tBool_i {n : Bool} {k : Bool → Prop} (h : k n) : tBool (.bool n) k := ⟨n, rfl, h⟩
theorem tStr_i {n : ByteArray} {k : ByteArray → Prop} (h : k n) : tStr (.string n) k := ⟨n, rfl, h⟩
theorem tPtr_i {n : Option Addr} {k : Option Addr → Prop} (h : k n) : tPtr (.pointer n) k := ⟨n, rfl, h⟩
theorem tSl_i {p : Option Addr} {n c : Nat} {k : Option Addr → Nat → Nat → Prop} (h : k p n c) : tSl (.slice p n c) k := ⟨p, n, c, rfl, h⟩
theorem tMap_i {n : Option Nat} {k : Option Nat → Prop} (h : k n) : tMap (.map n) k := ⟨n, rfl, h⟩
theorem tIf_i {n : IV} {k : IV → Prop} (h : k n) : tIf n.v k := ⟨n, rfl, h⟩
theorem tIf_nil {k : IV → Prop} (h : k .nil) : tIf .nilIface k := ⟨.nil, rfl, h⟩
theorem tIf_mk {t : TypeId} {x : Value} {k : IV → Prop} (h : k (.mk t x)) : tIf (.iface t x) k := ⟨.mk t x, rfl, h⟩
theorem tFn_i {n : FV} {k : FV → Prop} (h : k n) : tFn n.v k := ⟨n, rfl, h⟩
theorem tFn_mk {fn : Fn} {x y : Array Value} {k : FV → Prop} (h : k (.mk fn x y)) : tFn (.func fn x y) k := ⟨.mk fn x y, rfl, h⟩
theorem tAgg_i {l : List Value} {k : List Value → Prop} (h : k l) : tAgg (.agg ⟨l⟩) k := ⟨l, rfl, h⟩
theorem tTup_i {l : List Value} {k : List Value → Prop} (h : k l) : tTup (.tuple ⟨l⟩) k := ⟨l, rfl, h⟩
theorem tCons_i {v : Value} {r : List Value} {k : Value → List Value → Prop} (h : k v r) : tCons (v :: r) k := ⟨v, r, rfl, h⟩
theorem tNil_i {K : Prop} (h : K) : tNil [] K := ⟨rfl, h⟩
theorem andD_i {A B : Prop} (a : A) (b : B) : andD A B := ⟨a, b⟩
theorem guardB_i {b : Bool} {X : Prop} (h : b = true) (x : X) : guardB b X := by subst h; exact x
theorem iteB_i {b : Bool} {A B : Prop} (ha : b = true → A) (hb : b = false → B) : iteB b A B := by cases b <;> simp only [iteB] <;> first | exact ha rfl | exact hb rfl
theorem nilD_i {a : Addr} {k : Addr → Prop} (h : k a) : nilD (some a) k := h
theorem idxD_i {a : Addr} {n : Nat} {i : Int} {k : Addr → Prop} (h0 : 0 ≤ i) (h1 : i < n) (h : k a) : idxD (some a) n i k := ⟨h0, h1, h⟩
theorem bndD_i {i : Int} {y : Nat} {k : Nat → Prop} (h0 : 0 ≤ i) (h1 : i ≤ y) (h : k i.toNat) : bndD i y k := ⟨h0, h1, h⟩

/-! ### One block changes -/
/-- Block r now is o; all other blocks that were there are as they were. -/
structure Upd (r : Nat) (o : Obj) (H H' : Heap) : Prop where
  size : H.size ≤ H'.size
  same : ∀ b, b < H.size → b ≠ r → H'[b]? = H[b]?
  at_ : H'[r]? = some o
theorem Upd.hset {r j : Nat} {cs : List Value} {T : TypeId} {fr : Nat × Nat} {v : Value} (h : H[r]? = some (.cells ⟨cs⟩ T fr)) : Upd r (.cells ⟨cs.set j v⟩ T fr) H (hset H ⟨r, j, none⟩ v) :=
  ⟨by rw [hset_size]; exact Nat.le_refl _, fun b _ hb => hset_get hb, hset_same h⟩
theorem Upd.trans {r : Nat} {o o' : Obj} {H1 H2 : Heap} (a : Upd r o H H1) (b : Upd r o' H1 H2) : Upd r o' H H2 :=
  ⟨Nat.le_trans a.size b.size, fun i hi hr => (b.same i (Nat.lt_of_lt_of_le hi a.size) hr).trans (a.same i hi hr), b.at_⟩
theorem Upd.ext {r : Nat} {o : Obj} {H1 H2 : Heap} (a : Upd r o H H1) (b : ExtH H1 H2) : Upd r o H H2 :=
  ⟨Nat.le_trans a.size b.size, fun i hi hr => (b.block i (Nat.lt_of_lt_of_le hi a.size)).trans (a.same i hi hr), b.block_some a.at_⟩
theorem Upd.of_ext {r : Nat} {o : Obj} {H1 H2 : Heap} (a : ExtH H H1) (b : Upd r o H1 H2) (h : r < H.size ∨ H.size ≤ r) : Upd r o H H2 :=
  ⟨Nat.le_trans a.size b.size, fun i hi hr => (b.same i (Nat.lt_of_lt_of_le hi a.size) hr).trans (a.block i hi), b.at_⟩
theorem Upd.refl {r : Nat} {o : Obj} (h : H[r]? = some o) : Upd r o H H := ⟨Nat.le_refl _, fun _ _ _ => rfl, h⟩
theorem Upd.extH {r : Nat} {o : Obj} {H1 : Heap} (a : Upd r o H H1) (h : H.size ≤ r) : ExtH H H1 := ⟨a.size, fun b hb => a.same b hb (by omega)⟩
theorem Loc.upd (L : Loc H0 H l) (i : Nat) {r : Nat} {cs cs' : List Value} {T : TypeId} {H1 : Heap} (hi : l[i]? = some (r, cs, T)) (u : Upd r (.cells ⟨cs'⟩ T) H H1) : Loc H0 H1 (l.set i (r, cs', T)) := by
  have hr := L.cell i r cs T hi
  have hil : i < l.length := by
    rcases Nat.lt_or_ge i l.length with h | h
    · exact h
    · rw [List.getElem?_eq_none h] at hi; cases hi
  refine ⟨⟨Nat.le_trans L.ext.size u.size, fun b hb => ?_⟩, ?_, ?_⟩
  · rw [u.same b (Nat.lt_of_lt_of_le hb L.ext.size) (by omega)]; exact L.ext.block b hb
  · intro k r' ds U hk
    rw [List.getElem?_set] at hk
    split at hk
    · simp [hil] at hk
      obtain ⟨rfl, rfl, rfl⟩ := hk
      exact ⟨hr.1, u.at_⟩
    · rename_i hik
      have h1 := L.cell k r' ds U hk
      have hne : r' ≠ r := fun he => hik (L.apart i k (r, cs, T) (r', ds, U) hi hk he.symm)
      exact ⟨h1.1, by rw [u.same r' (block_lt h1.2) hne]; exact h1.2⟩
  · intro a b x y ha hb hxy
    have key : ∀ (a : Nat) (x : Blk), (l.set i (r, cs', T))[a]? = some x → ∃ x', l[a]? = some x' ∧ x'.1 = x.1 := by
      intro a x ha
      rw [List.getElem?_set] at ha
      split at ha
      · rename_i hia
        subst hia
        simp [hil] at ha
        subst ha
        exact ⟨_, hi, rfl⟩
      · exact ⟨x, ha, rfl⟩
    obtain ⟨x', h1, h2⟩ := key a x ha
    obtain ⟨y', h3, h4⟩ := key b y hb
    exact L.apart a b x' y' h1 h3 (by rw [h2, h4, hxy])
theorem ExtH.upd {r : Nat} {o : Obj} {H1 H2 : Heap} (a : ExtH H H1) (b : Upd r o H1 H2) (h : H.size ≤ r) : ExtH H H2 :=
  ⟨Nat.le_trans a.size b.size, fun i hi => (b.same i (Nat.lt_of_lt_of_le hi a.size) (by omega)).trans (a.block i hi)⟩
theorem Loc.tail {x : Blk} (L : Loc H0 H (x :: l)) : Loc H0 H l :=
  ⟨L.ext, fun i r cs T h => L.cell (i + 1) r cs T (by simpa using h), fun i j x y hi hj he => by have := L.apart (i + 1) (j + 1) x y (by simpa using hi) (by simpa using hj) he; omega⟩
/-- A block that the function didn't make itself: its cells. -/
theorem hcell_of {r j : Nat} {cs : List Value} {T : TypeId} {fr : Nat × Nat} {v : Value} (h : H[r]? = some (.cells ⟨cs⟩ T fr)) (hj : cs[j]? = some v) : hcell H ⟨r, j, none⟩ = some v := by
  unfold hcell
  rw [h]
  simpa using hj
theorem st1_of {r j : Nat} {cs : List Value} {T : TypeId} {u v : Value} {K : Heap → Prop} (h : H[r]? = some (.cells ⟨cs⟩ T)) (hj : cs[j]? = some u) (hv : isCell v = true)
    (k : ∀ H1, Upd r (.cells ⟨cs.set j v⟩ T) H H1 → K H1) : st1 H ⟨r, j, none⟩ v K :=
  ⟨hv, ⟨u, hcell_of h hj⟩, by unfold hfrozen; rw [h]; simp, k _ (Upd.hset h)⟩
theorem add_mk (r o k : Nat) : Addr.add ⟨r, o, none⟩ k = ⟨r, o + k, none⟩ := by unfold Addr.add; split <;> simp_all
theorem slP_mk {r o l m z : Nat} (h : m ≠ l) : slP (some ⟨r, o, none⟩) l m z = some ⟨r, o + l * z, none⟩ := by unfold slP; rw [if_neg h]; simp [add_mk]
theorem repZ_one (v : Value) (n : Nat) : repZ [v] n = List.replicate n v := by
  have h := range_rep [v] n
  have e := repZ_spec [v] n
  have : (⟨repZ [v] n⟩ : Array Value) = ⟨(List.replicate n [v]).flatten⟩ := e.trans h
  injection this with this
  rw [this]
  induction n with
  | zero => rfl
  | succ n ih => simp [List.replicate_succ]
theorem Loc.make (L : Loc H0 H l) {bytes : Nat} {zs : List Value} {E : TypeId} {a c : Int} {K : Nat → Nat → Nat → Heap → Prop} (hb : bytes ≠ 0) (h0 : 0 ≤ a) (h1 : a ≤ c) (h2 : (bytes : Int) * c ≤ 2 ^ 48)
    (k : ∀ r H1, ExtH H H1 → Loc H0 H1 ((r, repZ zs c.toNat, E) :: l) → K r a.toNat c.toNat H1) : mkD H bytes zs E a c K := ⟨hb, h0, h1, h2, k _ _ (ExtH.push _ _) (L.push _ _)⟩
end
end Go.Den
