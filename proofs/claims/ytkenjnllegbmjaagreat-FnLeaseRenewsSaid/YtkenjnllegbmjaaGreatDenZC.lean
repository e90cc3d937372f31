/- A plain reading of Go functions, proved to be what they do; no condition. -/
import Derived.Test.YtkenjnllegbmjaaGreatDenW
import Derived.Carry
import Derived.Lib.Bytealg
import Derived.Lib.Walk
import Derived.SizedLaws
/- Proofs over texts run through: the blocks that a function made itself, and all that was there before. -/
set_option linter.unusedVariables false
set_option linter.unusedSimpArgs false
namespace Go.Den
open Go

abbrev Blk := Nat × List Value × TypeId
/-- Since H0 nothing that was there has turned; and the blocks of l, made since, hold what l says. -/
structure Loc (H0 H : Heap) (l : List Blk) : Prop where
  ext : ExtH H0 H
  cell : ∀ (i : Nat) (r : Nat) (cs : List Value) (T : TypeId), l[i]? = some (r, cs, T) → H0.size ≤ r ∧ H[r]? = some (.cells ⟨cs⟩ T)
  apart : ∀ (i j : Nat) (x y : Blk), l[i]? = some x → l[j]? = some y → x.1 = y.1 → i = j
section
variable {P : Program} {H0 H : Heap} {l : List Blk}
theorem Loc.start (H : Heap) : Loc H H [] := ⟨ExtH.refl H, by simp, by simp⟩
theorem Loc.push (L : Loc H0 H l) (cs : List Value) (T : TypeId) : Loc H0 (H.push (.cells ⟨cs⟩ T)) ((H.size, cs, T) :: l) := by
  refine ⟨L.ext.trans (ExtH.push _ _), ?_, ?_⟩
  · intro i r ds U h
    cases i with
    | zero => simp at h; obtain ⟨rfl, rfl, rfl⟩ := h; exact ⟨L.ext.size, by simp⟩
    | succ i =>
      have := L.cell i r ds U (by simpa using h)
      exact ⟨this.1, (ExtH.push H _).block_some this.2⟩
  · intro i j x y hi hj he
    cases i with
    | zero => cases j with
      | zero => rfl
      | succ j =>
        simp at hi hj
        subst hi
        have := L.cell j y.1 y.2.1 y.2.2 (by simpa using hj)
        have := block_lt this.2
        simp at he
        omega
    | succ i => cases j with
      | zero =>
        simp at hi hj
        subst hj
        have := L.cell i x.1 x.2.1 x.2.2 (by simpa using hi)
        have := block_lt this.2
        simp at he
        omega
      | succ j =>
        simp at hi hj
        rw [L.apart i j x y hi hj he]
theorem Loc.new (L : Loc H0 H l) {cs : List Value} {T : TypeId} {K : Nat → Heap → Prop} (k : ∀ r H1, Loc H0 H1 ((r, cs, T) :: l) → K r H1) : newD H (.cells ⟨cs⟩ T) K :=
  k _ _ (L.push cs T)
theorem Loc.extend (L : Loc H0 H l) {H1 : Heap} (h : ExtH H H1) : Loc H0 H1 l :=
  ⟨L.ext.trans h, fun i r cs T hi => ⟨(L.cell i r cs T hi).1, h.block_some (L.cell i r cs T hi).2⟩, L.apart⟩
theorem Loc.at_ (L : Loc H0 H l) (i : Nat) {r : Nat} {cs : List Value} {T : TypeId} {j : Nat} {v : Value} (hi : l[i]? = some (r, cs, T)) (hj : cs[j]? = some v) : hcell H ⟨r, j, none⟩ = some v := by
  unfold hcell
  rw [(L.cell i r cs T hi).2]
  simpa using hj
theorem Loc.int (L : Loc H0 H l) (i : Nat) {r : Nat} {cs : List Value} {T : TypeId} {j : Nat} {kd : IntKind} {n : Int} {K : Int → Prop} (hi : l[i]? = some (r, cs, T)) (hj : cs[j]? = some (.int kd n)) (k : K n) : ldInt H ⟨r, j, none⟩ kd K := ⟨n, L.at_ i hi hj, k⟩
theorem Loc.bool (L : Loc H0 H l) (i : Nat) {r : Nat} {cs : List Value} {T : TypeId} {j : Nat} {n : Bool} {K : Bool → Prop} (hi : l[i]? = some (r, cs, T)) (hj : cs[j]? = some (.bool n)) (k : K n) : ldBool H ⟨r, j, none⟩ K := ⟨n, L.at_ i hi hj, k⟩
theorem Loc.str (L : Loc H0 H l) (i : Nat) {r : Nat} {cs : List Value} {T : TypeId} {j : Nat} {n : ByteArray} {K : ByteArray → Prop} (hi : l[i]? = some (r, cs, T)) (hj : cs[j]? = some (.string n)) (k : K n) : ldStr H ⟨r, j, none⟩ K := ⟨n, L.at_ i hi hj, k⟩
theorem Loc.ptr (L : Loc H0 H l) (i : Nat) {r : Nat} {cs : List Value} {T : TypeId} {j : Nat} {n : Option Addr} {K : Option Addr → Prop} (hi : l[i]? = some (r, cs, T)) (hj : cs[j]? = some (.pointer n)) (k : K n) : ldPtr H ⟨r, j, none⟩ K := ⟨n, L.at_ i hi hj, k⟩
theorem Loc.sl (L : Loc H0 H l) (i : Nat) {r : Nat} {cs : List Value} {T : TypeId} {j : Nat} {p : Option Addr} {n c : Nat} {K : Option Addr → Nat → Nat → Prop} (hi : l[i]? = some (r, cs, T)) (hj : cs[j]? = some (.slice p n c)) (k : K p n c) : ldSl H ⟨r, j, none⟩ K := ⟨p, n, c, L.at_ i hi hj, k⟩
theorem Loc.map (L : Loc H0 H l) (i : Nat) {r : Nat} {cs : List Value} {T : TypeId} {j : Nat} {n : Option Nat} {K : Option Nat → Prop} (hi : l[i]? = some (r, cs, T)) (hj : cs[j]? = some (.map n)) (k : K n) : ldMap H ⟨r, j, none⟩ K := ⟨n, L.at_ i hi hj, k⟩
theorem Loc.ifv (L : Loc H0 H l) (i : Nat) {r : Nat} {cs : List Value} {T : TypeId} {j : Nat} {n : IV} {K : IV → Prop} (hi : l[i]? = some (r, cs, T)) (hj : cs[j]? = some n.v) (k : K n) : ldIf H ⟨r, j, none⟩ K := ⟨n, L.at_ i hi hj, k⟩
theorem Loc.ifmk (L : Loc H0 H l) (i : Nat) {r : Nat} {cs : List Value} {T : TypeId} {j : Nat} {t : TypeId} {x : Value} {K : IV → Prop} (hi : l[i]? = some (r, cs, T)) (hj : cs[j]? = some (.iface t x)) (k : K (.mk t x)) : ldIf H ⟨r, j, none⟩ K := ⟨.mk t x, L.at_ i hi hj, k⟩
theorem Loc.ifnil (L : Loc H0 H l) (i : Nat) {r : Nat} {cs : List Value} {T : TypeId} {j : Nat} {K : IV → Prop} (hi : l[i]? = some (r, cs, T)) (hj : cs[j]? = some .nilIface) (k : K .nil) : ldIf H ⟨r, j, none⟩ K := ⟨.nil, L.at_ i hi hj, k⟩
theorem Loc.fnv (L : Loc H0 H l) (i : Nat) {r : Nat} {cs : List Value} {T : TypeId} {j : Nat} {n : FV} {K : FV → Prop} (hi : l[i]? = some (r, cs, T)) (hj : cs[j]? = some n.v) (k : K n) : ldFn H ⟨r, j, none⟩ K := ⟨n, L.at_ i hi hj, k⟩
theorem Loc.fnmk (L : Loc H0 H l) (i : Nat) {r : Nat} {cs : List Value} {T : TypeId} {j : Nat} {fn : Fn} {x y : Array Value} {K : FV → Prop} (hi : l[i]? = some (r, cs, T)) (hj : cs[j]? = some (.func fn x y)) (k : K (.mk fn x y)) : ldFn H ⟨r, j, none⟩ K := ⟨.mk fn x y, L.at_ i hi hj, k⟩

theorem hset_get {a : Addr} {v : Value} {b : Nat} (h : b ≠ a.block) : (hset H a v)[b]? = H[b]? := by
  unfold hset
  rw [Array.getElem?_modify, if_neg (Ne.symm h)]
theorem hset_same {r j : Nat} {cs : List Value} {T : TypeId} {fr : Nat × Nat} {v : Value} (h : H[r]? = some (.cells ⟨cs⟩ T fr)) : (hset H ⟨r, j, none⟩ v)[r]? = some (.cells ⟨cs.set j v⟩ T fr) := by
  unfold hset
  rw [Array.getElem?_modify, if_pos rfl, h]
  simp
theorem hset_size {a : Addr} {v : Value} : (hset H a v).size = H.size := by simp [hset]
theorem Loc.set (L : Loc H0 H l) (i : Nat) {r : Nat} {cs : List Value} {T : TypeId} (hi : l[i]? = some (r, cs, T)) (j : Nat) (v : Value) : Loc H0 (hset H ⟨r, j, none⟩ v) (l.set i (r, cs.set j v, T)) := by
  have hr := L.cell i r cs T hi
  have hil : i < l.length := by
    rcases Nat.lt_or_ge i l.length with h | h
    · exact h
    · rw [List.getElem?_eq_none h] at hi; cases hi
  refine ⟨⟨by rw [hset_size]; exact L.ext.size, fun b hb => ?_⟩, ?_, ?_⟩
  · rw [hset_get (by simp; omega)]; exact L.ext.block b hb
  · intro k r' ds U hk
    rw [List.getElem?_set] at hk
    split at hk
    · rename_i hik
      simp [hil] at hk
      obtain ⟨rfl, rfl, rfl⟩ := hk
      exact ⟨hr.1, hset_same hr.2⟩
    · rename_i hik
      have h1 := L.cell k r' ds U hk
      have hne : r' ≠ r := fun he => hik (L.apart i k (r, cs, T) (r', ds, U) hi hk he.symm)
      exact ⟨h1.1, by rw [hset_get hne]; exact h1.2⟩
  · intro a b x y ha hb hxy
    have key : ∀ (a : Nat) (x : Blk), (l.set i (r, cs.set j v, T))[a]? = some x → ∃ x', l[a]? = some x' ∧ x'.1 = x.1 := by
      intro a x ha
      rw [List.getElem?_set] at ha
      split at ha
      · rename_i hia
        subst hia
        simp [hil] at ha
        subst ha
        exact ⟨_, hi, rfl⟩
      · exact ⟨x, ha, rfl⟩
    obtain ⟨x', h1, h2⟩ := key a x ha
    obtain ⟨y', h3, h4⟩ := key b y hb
    exact L.apart a b x' y' h1 h3 (by rw [h2, h4, hxy])
theorem Loc.frozen (L : Loc H0 H l) (i : Nat) {r : Nat} {cs : List Value} {T : TypeId} {j : Nat} (hi : l[i]? = some (r, cs, T)) : hfrozen H ⟨r, j, none⟩ = false := by
  unfold hfrozen
  rw [(L.cell i r cs T hi).2]
  simp
theorem Loc.st (L : Loc H0 H l) (i : Nat) {r : Nat} {cs : List Value} {T : TypeId} {j : Nat} {u v : Value} {K : Heap → Prop} (hi : l[i]? = some (r, cs, T)) (hj : cs[j]? = some u) (hv : isCell v = true)
    (k : ∀ H1, Loc H0 H1 (l.set i (r, cs.set j v, T)) → K H1) : st1 H ⟨r, j, none⟩ v K :=
  ⟨hv, ⟨u, L.at_ i hi hj⟩, L.frozen i hi, k _ (L.set i hi j v)⟩
theorem isCell_IV (i : IV) : isCell i.v = true := by cases i <;> rfl
theorem isCell_FV (i : FV) : isCell i.v = true := by cases i <;> rfl

/-! ### Calls -/
/-- What a call gives that only reads and makes memory. -/
def Gives (v : Value) (H : Heap) : Ending → Heap → Prop := fun e H' => e = .returned v ∧ ExtH H H'
theorem Loc.call (L : Loc H0 H l) {f : FuncId} {args : List Value} {v : Value} {Q : List PanicEntry → Heap → Prop} {K : Value → Heap → Prop} (hc : CallsH P f ⟨args⟩ H (Gives v H)) (k : ∀ H1, ExtH H H1 → Loc H0 H1 l → K v H1) : callD P f args H Q K :=
  CallsH.mono hc fun e H1 ⟨he, hx⟩ => by subst he; exact k H1 hx (L.extend hx)
theorem callD_i {f : FuncId} {args : List Value} {S : Ending → Heap → Prop} {Q : List PanicEntry → Heap → Prop} {K : Value → Heap → Prop} (hc : CallsH P f ⟨args⟩ H S) (k : ∀ e H1, S e H1 → retK K Q e H1) : callD P f args H Q K := CallsH.mono hc k
theorem callV_i {f : FuncId} {first cap : List Value} {args : List Value} {Q : List PanicEntry → Heap → Prop} {K : Value → Heap → Prop} (hf : fnOk P f = true) (k : callD P f (first ++ args ++ cap) H Q K) : callV P (.func (.func f) ⟨first⟩ ⟨cap⟩) args H Q K := ⟨f, first, cap, rfl, hf, k⟩
theorem tInt_i {kd : IntKind} {n : Int} {k : Int → Prop} (h : k n) : tInt (.int kd n) kd k := ⟨n, rfl, h⟩
theorem tBool_i {n : Bool} {k : Bool → Prop} (h : k n) : tBool (.bool n) k := ⟨n, rfl, h⟩
theorem tStr_i {n : ByteArray} {k : ByteArray → Prop} (h : k n) : tStr (.string n) k := ⟨n, rfl, h⟩
theorem tPtr_i {n : Option Addr} {k : Option Addr → Prop} (h : k n) : tPtr (.pointer n) k := ⟨n, rfl, h⟩
theorem tSl_i {p : Option Addr} {n c : Nat} {k : Option Addr → Nat → Nat → Prop} (h : k p n c) : tSl (.slice p n c) k := ⟨p, n, c, rfl, h⟩
theorem tMap_i {n : Option Nat} {k : Option Nat → Prop} (h : k n) : tMap (.map n) k := ⟨n, rfl, h⟩
theorem tIf_i {n : IV} {k : IV → Prop} (h : k n) : tIf n.v k := ⟨n, rfl, h⟩
theorem tIf_nil {k : IV → Prop} (h : k .nil) : tIf .nilIface k := ⟨.nil, rfl, h⟩
theorem tIf_mk {t : TypeId} {x : Value} {k : IV → Prop} (h : k (.mk t x)) : tIf (.iface t x) k := ⟨.mk t x, rfl, h⟩
theorem tFn_i {n : FV} {k : FV → Prop} (h : k n) : tFn n.v k := ⟨n, rfl, h⟩
theorem tFn_mk {fn : Fn} {x y : Array Value} {k : FV → Prop} (h : k (.mk fn x y)) : tFn (.func fn x y) k := ⟨.mk fn x y, rfl, h⟩
theorem tAgg_i {l : List Value} {k : List Value → Prop} (h : k l) : tAgg (.agg ⟨l⟩) k := ⟨l, rfl, h⟩
theorem tTup_i {l : List Value} {k : List Value → Prop} (h : k l) : tTup (.tuple ⟨l⟩) k := ⟨l, rfl, h⟩
theorem tCons_i {v : Value} {r : List Value} {k : Value → List Value → Prop} (h : k v r) : tCons (v :: r) k := ⟨v, r, rfl, h⟩
theorem tNil_i {K : Prop} (h : K) : tNil [] K := ⟨rfl, h⟩
theorem andD_i {A B : Prop} (a : A) (b : B) : andD A B := ⟨a, b⟩
theorem guardB_i {b : Bool} {X : Prop} (h : b = true) (x : X) : guardB b X := by subst h; exact x
theorem iteB_i {b : Bool} {A B : Prop} (ha : b = true → A) (hb : b = false → B) : iteB b A B := by cases b <;> simp only [iteB] <;> first | exact ha rfl | exact hb rfl
theorem nilD_i {a : Addr} {k : Addr → Prop} (h : k a) : nilD (some a) k := h
theorem idxD_i {a : Addr} {n : Nat} {i : Int} {k : Addr → Prop} (h0 : 0 ≤ i) (h1 : i < n) (h : k a) : idxD (some a) n i k := ⟨h0, h1, h⟩
theorem bndD_i {i : Int} {y : Nat} {k : Nat → Prop} (h0 : 0 ≤ i) (h1 : i ≤ y) (h : k i.toNat) : bndD i y k := ⟨h0, h1, h⟩

/-! ### One block changes -/
/-- Block r now is o; all other blocks that were there are as they were. -/
structure Upd (r : Nat) (o : Obj) (H H' : Heap) : Prop where
  size : H.size ≤ H'.size
  same : ∀ b, b < H.size → b ≠ r → H'[b]? = H[b]?
  at_ : H'[r]? = some o
theorem Upd.hset {r j : Nat} {cs : List Value} {T : TypeId} {fr : Nat × Nat} {v : Value} (h : H[r]? = some (.cells ⟨cs⟩ T fr)) : Upd r (.cells ⟨cs.set j v⟩ T fr) H (hset H ⟨r, j, none⟩ v) :=
  ⟨by rw [hset_size]; exact Nat.le_refl _, fun b _ hb => hset_get hb, hset_same h⟩
theorem Upd.trans {r : Nat} {o o' : Obj} {H1 H2 : Heap} (a : Upd r o H H1) (b : Upd r o' H1 H2) : Upd r o' H H2 :=
  ⟨Nat.le_trans a.size b.size, fun i hi hr => (b.same i (Nat.lt_of_lt_of_le hi a.size) hr).trans (a.same i hi hr), b.at_⟩
theorem Upd.ext {r : Nat} {o : Obj} {H1 H2 : Heap} (a : Upd r o H H1) (b : ExtH H1 H2) : Upd r o H H2 :=
  ⟨Nat.le_trans a.size b.size, fun i hi hr => (b.block i (Nat.lt_of_lt_of_le hi a.size)).trans (a.same i hi hr), b.block_some a.at_⟩
theorem Upd.of_ext {r : Nat} {o : Obj} {H1 H2 : Heap} (a : ExtH H H1) (b : Upd r o H1 H2) (h : r < H.size ∨ H.size ≤ r) : Upd r o H H2 :=
  ⟨Nat.le_trans a.size b.size, fun i hi hr => (b.same i (Nat.lt_of_lt_of_le hi a.size) hr).trans (a.block i hi), b.at_⟩
theorem Upd.refl {r : Nat} {o : Obj} (h : H[r]? = some o) : Upd r o H H := ⟨Nat.le_refl _, fun _ _ _ => rfl, h⟩
theorem Upd.extH {r : Nat} {o : Obj} {H1 : Heap} (a : Upd r o H H1) (h : H.size ≤ r) : ExtH H H1 := ⟨a.size, fun b hb => a.same b hb (by omega)⟩
theorem Loc.upd (L : Loc H0 H l) (i : Nat) {r : Nat} {cs cs' : List Value} {T : TypeId} {H1 : Heap} (hi : l[i]? = some (r, cs, T)) (u : Upd r (.cells ⟨cs'⟩ T) H H1) : Loc H0 H1 (l.set i (r, cs', T)) := by
  have hr := L.cell i r cs T hi
  have hil : i < l.length := by
    rcases Nat.lt_or_ge i l.length with h | h
    · exact h
    · rw [List.getElem?_eq_none h] at hi; cases hi
  refine ⟨⟨Nat.le_trans L.ext.size u.size, fun b hb => ?_⟩, ?_, ?_⟩
  · rw [u.same b (Nat.lt_of_lt_of_le hb L.ext.size) (by omega)]; exact L.ext.block b hb
  · intro k r' ds U hk
    rw [List.getElem?_set] at hk
    split at hk
    · simp [hil] at hk
      obtain ⟨rfl, rfl, rfl⟩ := hk
      exact ⟨hr.1, u.at_⟩
    · rename_i hik
      have h1 := L.cell k r' ds U hk
      have hne : r' ≠ r := fun he => hik (L.apart i k (r, cs, T) (r', ds, U) hi hk he.symm)
      exact ⟨h1.1, by rw [u.same r' (block_lt h1.2) hne]; exact h1.2⟩
  · intro a b x y ha hb hxy
    have key : ∀ (a : Nat) (x : Blk), (l.set i (r, cs', T))[a]? = some x → ∃ x', l[a]? = some x' ∧ x'.1 = x.1 := by
      intro a x ha
      rw [List.getElem?_set] at ha
      split at ha
      · rename_i hia
        subst hia
        simp [hil] at ha
        subst ha
        exact ⟨_, hi, rfl⟩
      · exact ⟨x, ha, rfl⟩
    obtain ⟨x', h1, h2⟩ := key a x ha
    obtain ⟨y', h3, h4⟩ := key b y hb
    exact L.apart a b x' y' h1 h3 (by rw [h2, h4, hxy])
theorem ExtH.upd {r : Nat} {o : Obj} {H1 H2 : Heap} (a : ExtH H H1) (b : Upd r o H1 H2) (h : H.size ≤ r) : ExtH H H2 :=
  ⟨Nat.le_trans a.size b.size, fun i hi => (b.same i (Nat.lt_of_lt_of_le hi a.size) (by omega)).trans (a.block i hi)⟩
theorem Loc.tail {x : Blk} (L : Loc H0 H (x :: l)) : Loc H0 H l :=
  ⟨L.ext, fun i r cs T h => L.cell (i + 1) r cs T (by simpa using h), fun i j x y hi hj he => by have := L.apart (i + 1) (j + 1) x y (by simpa using hi) (by simpa using hj) he; omega⟩
/-- A block that the function didn't make itself: its cells. -/
theorem hcell_of {r j : Nat} {cs : List Value} {T : TypeId} {fr : Nat × Nat} {v : Value} (h : H[r]? = some (.cells ⟨cs⟩ T fr)) (hj : cs[j]? = some v) : hcell H ⟨r, j, none⟩ = some v := by
  unfold hcell
  rw [h]
  simpa using hj
theorem st1_of {r j : Nat} {cs : List Value} {T : TypeId} {u v : Value} {K : Heap → Prop} (h : H[r]? = some (.cells ⟨cs⟩ T)) (hj : cs[j]? = some u) (hv : isCell v = true)
    (k : ∀ H1, Upd r (.cells ⟨cs.set j v⟩ T) H H1 → K H1) : st1 H ⟨r, j, none⟩ v K :=
  ⟨hv, ⟨u, hcell_of h hj⟩, by unfold hfrozen; rw [h]; simp, k _ (Upd.hset h)⟩
theorem add_mk (r o k : Nat) : Addr.add ⟨r, o, none⟩ k = ⟨r, o + k, none⟩ := by unfold Addr.add; split <;> simp_all
theorem slP_mk {r o l m z : Nat} (h : m ≠ l) : slP (some ⟨r, o, none⟩) l m z = some ⟨r, o + l * z, none⟩ := by unfold slP; rw [if_neg h]; simp [add_mk]
theorem repZ_one (v : Value) (n : Nat) : repZ [v] n = List.replicate n v := by
  have h := range_rep [v] n
  have e := repZ_spec [v] n
  have : (⟨repZ [v] n⟩ : Array Value) = ⟨(List.replicate n [v]).flatten⟩ := e.trans h
  injection this with this
  rw [this]
  induction n with
  | zero => rfl
  | succ n ih => simp [List.replicate_succ]
theorem Loc.make (L : Loc H0 H l) {bytes : Nat} {zs : List Value} {E : TypeId} {a c : Int} {K : Nat → Nat → Nat → Heap → Prop} (hb : bytes ≠ 0) (h0 : 0 ≤ a) (h1 : a ≤ c) (h2 : (bytes : Int) * c ≤ 2 ^ 48)
    (k : ∀ r H1, ExtH H H1 → Loc H0 H1 ((r, repZ zs c.toNat, E) :: l) → K r a.toNat c.toNat H1) : mkD H bytes zs E a c K := ⟨hb, h0, h1, h2, k _ _ (ExtH.push _ _) (L.push _ _)⟩
end
end Go.Den

/- RowsAt of records, slices that grow, what changed and what did not. -/
set_option linter.unusedVariables false
set_option linter.unusedSimpArgs false
namespace Go.Den
open Go

theorem add_zero' (a : Addr) : a.add 0 = a := by unfold Addr.add; simp
theorem add_add' (a : Addr) (x y : Nat) : (a.add x).add y = a.add (x + y) := by
  unfold Addr.add
  by_cases hx : x = 0
  · subst hx; simp
  · by_cases hy : y = 0
    · subst hy; simp
    · simp [hx, hy]; omega
theorem add_block (a : Addr) (x : Nat) : (a.add x).block = a.block := by unfold Addr.add; split <;> rfl

theorem growBy_le (n : Nat) : ∀ (k c : Nat), c ≤ 2 * n + 768 → Builtin.growBy n k c ≤ 2 * n + 768 := by
  intro k
  induction k with
  | zero => intro c h; simpa [Builtin.growBy] using h
  | succ k ih =>
    intro c h
    simp only [Builtin.growBy]
    split
    · exact h
    · exact ih _ (by omega)
theorem nextcap_le {n c : Nat} (h : c < n) : Builtin.nextslicecap n c ≤ 2 * n + 768 := by
  unfold Builtin.nextslicecap
  split
  · omega
  · split
    · omega
    · exact growBy_le n _ _ (by omega)

/-- Records that lie in a row, z cells each. -/
def RowsAt {α : Type} (f : α → List Value) (z : Nat) (H : Heap) (p : Option Addr) (l : List α) : Prop :=
  l = [] ∨ ∃ a, p = some a ∧ ∀ i x, l[i]? = some x → ∀ j v, (f x)[j]? = some v → hcell H ((a.add (i * z)).add j) = some v
section
variable {α : Type} {f : α → List Value} {z : Nat} {H H1 : Heap} {p : Option Addr} {l : List α}
theorem RowsAt.ext (h : RowsAt f z H p l) (e : ExtH H H1) : RowsAt f z H1 p l := by
  rcases h with h | ⟨a, rfl, h⟩
  · exact .inl h
  · exact .inr ⟨a, rfl, fun i x hi j v hj => e.cell (h i x hi j v hj)⟩
theorem RowsAt.nil : RowsAt f z H p [] := .inl rfl
/-- A place in the row. -/
theorem RowsAt.idx (h : RowsAt f z H p l) {n : Nat} {i : Int} {k : Addr → Prop} (hn : n = l.length) (h0 : 0 ≤ i) (h1 : i < n)
    (hk : ∀ a x, l[i.toNat]? = some x → (∀ j v, (f x)[j]? = some v → hcell H ((a.add (i.toNat * z)).add j) = some v) → k a) : idxD p n i k := by
  have hi : i.toNat < l.length := by omega
  rcases h with h | ⟨a, rfl, h⟩
  · subst h; simp at hi
  · exact ⟨h0, h1, hk a _ (List.getElem?_eq_getElem hi) (h _ _ (List.getElem?_eq_getElem hi))⟩
/-- What the base of a record holds. -/
theorem at_zero {a : Addr} {cs : List Value} (h : ∀ j v, cs[j]? = some v → hcell H (a.add j) = some v) {v : Value} (h0 : cs[0]? = some v) : hcell H a = some v := by
  have := h 0 v h0
  rwa [add_zero'] at this
theorem RowsAt.of_block {r : Nat} {cs : List Value} {T : TypeId} {fr : Nat × Nat} (hb : H[r]? = some (.cells ⟨cs⟩ T fr)) (hc : ∀ i x, l[i]? = some x → ∀ j v, (f x)[j]? = some v → cs[i * z + j]? = some v) :
    RowsAt f z H (some ⟨r, 0, none⟩) l := by
  refine .inr ⟨_, rfl, fun i x hi j v hj => ?_⟩
  rw [add_add', add_mk, Nat.zero_add]
  exact hcell_of hb (hc i x hi j v hj)
end
theorem flat_get {α : Type} {f : α → List Value} {z : Nat} (hz : ∀ x, (f x).length = z) : ∀ (l : List α) (sp : List Value) (i : Nat) (x : α), l[i]? = some x → ∀ j v, (f x)[j]? = some v → (l.flatMap f ++ sp)[i * z + j]? = some v := by
  intro l
  induction l with
  | nil => intro sp i x hi; simp at hi
  | cons y l ih =>
    intro sp i x hi j v hj
    have hjl : j < z := by
      rw [← hz x]
      rcases Nat.lt_or_ge j (f x).length with h | h
      · exact h
      · rw [List.getElem?_eq_none h] at hj; cases hj
    cases i with
    | zero =>
      simp at hi
      subst hi
      simp only [List.flatMap_cons, Nat.zero_mul, Nat.zero_add, List.append_assoc]
      rw [List.getElem?_append_left (by rw [hz]; exact hjl)]
      exact hj
    | succ i =>
      simp only [List.flatMap_cons, List.append_assoc]
      rw [List.getElem?_append_right (by rw [hz, Nat.succ_mul]; omega), hz, show (i + 1) * z + j - z = i * z + j from by rw [Nat.succ_mul]; omega]
      exact ih sp i x (by simpa using hi) j v hj
theorem flat_length {α : Type} {f : α → List Value} {z : Nat} (hz : ∀ x, (f x).length = z) (l : List α) : (l.flatMap f).length = l.length * z := by
  induction l with
  | nil => simp
  | cons y l ih => simp [List.flatMap_cons, ih, hz, Nat.succ_mul]; omega

/-- A slice that the call grows: nil, or a block of its own, which heads the list of blocks. -/
inductive Gro (H0 H : Heap) (b : List Blk) (E : TypeId) (z : Nat) : Option Addr → Nat → Nat → List Value → Prop
  | nil : Loc H0 H b → Gro H0 H b E z none 0 0 []
  | mk {r n c : Nat} {vs sp : List Value} : Loc H0 H ((r, vs ++ sp, E) :: b) → vs.length = n * z → sp.length = (c - n) * z → n ≤ c → Gro H0 H b E z (some ⟨r, 0, none⟩) n c vs
section
variable {H0 H H1 : Heap} {b : List Blk} {E : TypeId} {z : Nat} {p : Option Addr} {n c : Nat} {vs : List Value}
theorem Gro.ext (g : Gro H0 H b E z p n c vs) (e : ExtH H H1) : Gro H0 H1 b E z p n c vs := by
  cases g with
  | nil L => exact .nil (L.extend e)
  | mk L h1 h2 h3 => exact .mk (L.extend e) h1 h2 h3
theorem Gro.loc (g : Gro H0 H b E z p n c vs) : Loc H0 H b := by
  cases g with
  | nil L => exact L
  | mk L h1 h2 h3 => exact L.tail
theorem Gro.len (g : Gro H0 H b E z p n c vs) : vs.length = n * z := by
  cases g with
  | nil L => simp
  | mk L h1 h2 h3 => exact h1
/-- Append to a slice of one's own. -/
theorem Gro.app (g : Gro H0 H b E z p n c vs) {bytes m : Nat} {zs us : List Value} {K : Option Addr → Nat → Nat → Heap → Prop} (hz : zs.length = z) (hb : bytes ≠ 0) (hs : (2 * (n + m) + 768) * bytes ≤ 2 ^ 48) (hu : us.length = m * z) (hm : 0 < m) (hcell : ∀ v ∈ us, isCell v = true)
    (k : ∀ p' c' H1, Gro H0 H1 b E z p' (n + m) c' (vs ++ us) → H.size ≤ H1.size → (∀ i, i < H.size → p ≠ some ⟨i, 0, none⟩ → H1[i]? = H[i]? ∧ p' ≠ some ⟨i, 0, none⟩) → K p' (n + m) c' H1) : apV H z bytes zs E p n c m us K := by
  have hrep : ∀ k, (repZ zs k).length = k * z := by
    intro k
    have : (⟨repZ zs k⟩ : Array Value) = ⟨(List.replicate k zs).flatten⟩ := (repZ_spec zs k).trans (range_rep zs k)
    injection this with this
    rw [this]
    simp [List.length_flatten, hz]
  cases g with
  | nil L =>
    refine ⟨fun h => by omega, fun _ => ⟨hb, ?_, [], by simp, fun j v h => by simp at h, fun cap hcap => ?_⟩⟩
    · exact Nat.le_trans (Nat.mul_le_mul_right _ (nextcap_le (by omega))) hs
    · exact k _ _ _ (.mk (L.push _ _) (by simpa using hu) (by rw [hrep]) hcap) (ExtH.push _ _).size (fun i hi _ => ⟨(ExtH.push _ _).block i hi, by simp; omega⟩)
  | mk L h1 h2 h3 =>
    rename_i r sp
    refine ⟨fun h => ?_, fun h => ⟨hb, ?_, vs, h1, fun j v hj => ⟨_, rfl, ?_⟩, fun cap hcap => ?_⟩⟩
    · show stCs _ H 0 us _
      have hl : us.length ≤ sp.length := by rw [hu, h2]; exact Nat.mul_le_mul_right _ (by omega)
      have key : ∀ (us : List Value) (H : Heap) (i : Nat) (cs : List Value), Loc H0 H ((r, cs, E) :: b) → (∀ v ∈ us, isCell v = true) → n * z + i + us.length ≤ cs.length →
          (∀ H1, Loc H0 H1 ((r, cs.take (n * z + i) ++ us ++ cs.drop (n * z + i + us.length), E) :: b) → H.size ≤ H1.size → (∀ i, i < H.size → i ≠ r → H1[i]? = H[i]?) → K (some ⟨r, 0, none⟩) (n + m) c H1) → stCs ((⟨r, 0, none⟩ : Addr).add (n * z)) H i us (fun H1 => K (some ⟨r, 0, none⟩) (n + m) c H1) := by
        intro us
        induction us with
        | nil =>
          intro H i cs L _ hl k
          simp only [List.append_nil, List.length_nil, Nat.add_zero, List.take_append_drop] at k
          exact k H L (Nat.le_refl _) (fun _ _ _ => rfl)
        | cons v us ih =>
          intro H i cs L hc hl k
          simp only [stCs]
          have hi : n * z + i < cs.length := by simp at hl; omega
          rw [add_add', add_mk, Nat.zero_add]
          have hb := (L.cell 0 _ _ _ rfl).2
          refine st1_of hb (List.getElem?_eq_getElem hi) (hc v (List.mem_cons_self ..)) ?_
          intro H1 u1
          have L1 := Loc.upd L 0 rfl u1
          refine ih H1 (i + 1) (cs.set (n * z + i) v) L1 (fun v hv => hc v (List.mem_cons_of_mem _ hv)) (by simp at hl ⊢; omega) ?_
          intro H2 L2 sz sm
          refine k H2 ?_ (Nat.le_trans u1.size sz) (fun i hi hn => (sm i (Nat.lt_of_lt_of_le hi u1.size) hn).trans (u1.same i hi hn))
          have e : (cs.set (n * z + i) v).take (n * z + (i + 1)) ++ us ++ (cs.set (n * z + i) v).drop (n * z + (i + 1) + us.length) = cs.take (n * z + i) ++ (v :: us) ++ cs.drop (n * z + i + (v :: us).length) := by
            rw [show n * z + (i + 1) = n * z + i + 1 from by omega, List.take_add_one, List.take_set_of_le (by omega)]
            simp only [List.getElem?_set_self hi, Option.toList_some]
            rw [List.drop_set_of_lt (by omega)]
            simp only [List.append_assoc, List.singleton_append, List.cons_append, List.nil_append, List.length_cons, List.append_cancel_left_eq]
            rw [show n * z + i + 1 + us.length = n * z + i + (us.length + 1) from by omega]
          rwa [e] at L2
      refine key us H 0 (vs ++ sp) L hcell (by simp; omega) ?_
      intro H1 L1 sz sm
      refine k _ _ _ ?_ sz (fun i hi hn => ⟨sm i hi (fun he => hn (by rw [he])), hn⟩)
      have e : (vs ++ sp).take (n * z + 0) ++ us ++ (vs ++ sp).drop (n * z + 0 + us.length) = (vs ++ us) ++ sp.drop us.length := by
        rw [Nat.add_zero, ← h1, List.take_left, List.drop_append]
        simp
      rw [e] at L1
      refine .mk L1 (by simp [h1, hu, Nat.add_mul]) ?_ h
      simp [h2, hu, ← Nat.sub_mul]
      congr 1
      omega
    · exact Nat.le_trans (Nat.mul_le_mul_right _ (nextcap_le h)) hs
    · have hr := (L.cell 0 _ _ _ rfl).2
      rw [add_mk, Nat.zero_add]
      refine hcell_of hr ?_
      rw [List.getElem?_append_left]
      · exact hj
      · rcases Nat.lt_or_ge j vs.length with h | h
        · exact h
        · rw [List.getElem?_eq_none h] at hj; cases hj
    · exact k _ _ _ (.mk (L.tail.push _ _) (by simp [h1, hu, Nat.add_mul]) (by rw [hrep]) hcap) (ExtH.push _ _).size (fun i hi _ => ⟨(ExtH.push _ _).block i hi, by simp; omega⟩)
/-- The slice at last: rows of records, in blocks made since. -/
theorem Gro.rows {α : Type} {f : α → List Value} {l : List α} (g : Gro H0 H b E z p n c (l.flatMap f)) (hz : ∀ x, (f x).length = z) (hz0 : 0 < z) : RowsAt f z H p l ∧ l.length = n := by
  have hl : l.length * z = n * z := by rw [← flat_length hz l]; exact g.len
  refine ⟨?_, Nat.eq_of_mul_eq_mul_right hz0 hl⟩
  generalize hvs : l.flatMap f = vs at g
  cases g with
  | nil L =>
    left
    cases l with
    | nil => rfl
    | cons x l => simp [Nat.succ_mul] at hl; omega
  | mk L h1 h2 h3 =>
    refine RowsAt.of_block (L.cell 0 _ _ _ rfl).2 ?_
    intro i x hi j v hj
    rw [← hvs]
    exact flat_get hz l _ i x hi j v hj
end
/-- The bytes of a text, in a block of their own. -/
def Str (H : Heap) (r : Nat) (s : ByteArray) : Prop := r < H.size ∧ ∀ j v, (bytesOf s.data.toList)[j]? = some v → hcell H ⟨r, j, none⟩ = some v
theorem Str.ext {H H1 : Heap} {r : Nat} {s : ByteArray} (h : Str H r s) (e : ExtH H H1) : Str H1 r s := ⟨Nat.lt_of_lt_of_le h.1 e.size, fun j v hj => e.cell (h.2 j v hj)⟩
theorem hcell_same {H H1 : Heap} {a : Addr} (h : H1[a.block]? = H[a.block]?) : hcell H1 a = hcell H a := by unfold hcell; rw [h]
theorem Str.same {H H1 : Heap} {r : Nat} {s : ByteArray} (h : Str H r s) (hs : H.size ≤ H1.size) (e : H1[r]? = H[r]?) : Str H1 r s :=
  ⟨Nat.lt_of_lt_of_le h.1 hs, fun j v hj => (hcell_same (a := ⟨r, j, none⟩) e).trans (h.2 j v hj)⟩
theorem Loc.sb {H0 H : Heap} {l : List Blk} (L : Loc H0 H l) {E : TypeId} {s : ByteArray} {K : Nat → Nat → Heap → Prop} (hs : s.size < 2 ^ 63) (k : ∀ r c H1, ExtH H H1 → r = H.size → Loc H0 H1 l → Str H1 r s → K r c H1) : sbD H E s K := by
  refine ⟨hs, fun cap hcap => ?_⟩
  refine k _ _ _ (ExtH.push _ _) rfl (L.extend (ExtH.push _ _)) ⟨by rw [Array.size_push]; omega, fun j v hj => ?_⟩
  refine hcell_of (H := H.push _) (fr := (cap, cap + 1)) (by rw [Array.getElem?_push, if_pos rfl]) ?_
  rw [List.getElem?_append_left]
  · exact hj
  · rcases Nat.lt_or_ge j (bytesOf s.data.toList).length with h | h
    · exact h
    · rw [List.getElem?_eq_none h] at hj; cases hj
theorem bsD_i {H : Heap} {r : Nat} {s : ByteArray} {k : ByteArray → Prop} (h : Str H r s) (hk : k s) : bsD H (some ⟨r, 0, none⟩) s.size k := by
  refine ⟨s.data.toList, Array.length_toList, fun j v hj => ⟨_, rfl, ?_⟩, ?_⟩
  · rw [add_mk, Nat.zero_add]; exact h.2 j v hj
  · have : (⟨⟨s.data.toList⟩⟩ : ByteArray) = s := by cases s; rfl
    rw [this]; exact hk
/-- A call that tells yes or no, and leaves what was there. -/
def Tells (H : Heap) : Ending → Heap → Prop := fun e H' => (∃ b, e = .returned (.bool b)) ∧ ExtH H H'
/-- What is not among S stays. -/
structure Chg (S : Nat → Prop) (H H' : Heap) : Prop where
  size : H.size ≤ H'.size
  same : ∀ i, i < H.size → ¬ S i → H'[i]? = H[i]?
section
variable {S : Nat → Prop} {A B C : Heap}
theorem Chg.refl : Chg S A A := ⟨Nat.le_refl _, fun _ _ _ => rfl⟩
theorem Chg.trans (h : Chg S A B) (k : Chg S B C) : Chg S A C := ⟨Nat.le_trans h.size k.size, fun i hi hs => (k.same i (Nat.lt_of_lt_of_le hi h.size) hs).trans (h.same i hi hs)⟩
theorem Chg.of_ext (h : ExtH A B) : Chg S A B := ⟨h.size, fun i hi _ => h.block i hi⟩
theorem Chg.mono {S' : Nat → Prop} (h : Chg S A B) (hs : ∀ i, S i → S' i) : Chg S' A B := ⟨h.size, fun i hi hn => h.same i hi fun hh => hn (hs i hh)⟩
theorem Chg.upd {r : Nat} {o : Obj} (h : Upd r o A B) (hr : S r) : Chg S A B := ⟨h.size, fun i hi hn => h.same i hi fun he => hn (he ▸ hr)⟩
theorem Chg.block {r : Nat} {o : Obj} (h : Chg S A B) (hr : ¬ S r) (hb : A[r]? = some o) : B[r]? = some o := (h.same r (block_lt hb) hr).trans hb
theorem Chg.ext (h : Chg S A B) (hs : ∀ i, S i → A.size ≤ i) : ExtH A B := ⟨h.size, fun i hi => h.same i hi fun hh => by have := hs i hh; omega⟩
end
end Go.Den

/- The state of a walk: what was there is unturned but for a footprint; and blocks that are known whole. -/
set_option linter.unusedVariables false
set_option linter.unusedSimpArgs false
namespace Go.Den
open Go

theorem GoL.mono {P : Program} {f : FuncId} {n : Nat} {todo : List Item} {live : List Nat} {vals : List Value} {H : Heap} {R R' : Ending → Heap → Prop} (h : GoL P f n todo live vals H R) (hr : ∀ e H', R e H' → R' e H') : GoL P f n todo live vals H R' := by
  intro ρ0 b a cs w Rf hb hk ha hd hw
  exact h ρ0 b a cs w Rf hb hk ha (hd.mono hr) hw
abbrev Bk := Nat × Obj
/-- Since F only blocks of S have turned; the blocks of l, of S or made since, hold what l says. -/
structure St (F : Heap) (S : Nat → Prop) (H : Heap) (l : List Bk) : Prop where
  chg : Chg S F H
  own : ∀ (i r : Nat) (o : Obj), l[i]? = some (r, o) → (S r ∨ F.size ≤ r) ∧ H[r]? = some o
  apart : ∀ (i j : Nat) (x y : Bk), l[i]? = some x → l[j]? = some y → x.1 = y.1 → i = j
def Nn : Nat → Prop := fun _ => False
section
variable {P : Program} {F H H1 : Heap} {S : Nat → Prop} {l : List Bk}
theorem St.start (H : Heap) : St H Nn H [] := ⟨Chg.refl, by simp, by simp⟩
theorem St.starts (H : Heap) (S : Nat → Prop) : St H S H [] := ⟨Chg.refl, by simp, by simp⟩
theorem St.ext (L : St F Nn H l) : ExtH F H := L.chg.ext (fun i h => h.elim)
theorem St.mono {S' : Nat → Prop} (L : St F S H l) (h : ∀ i, S i → S' i) : St F S' H l := ⟨L.chg.mono h, fun i r o hi => ⟨(L.own i r o hi).1.imp (h r) id, (L.own i r o hi).2⟩, L.apart⟩
theorem St.lt (L : St F S H l) {i r : Nat} {o : Obj} (hi : l[i]? = some (r, o)) : r < H.size := block_lt (L.own i r o hi).2
theorem St.ne (L : St F S H l) {i j r r' : Nat} {o o' : Obj} (hi : l[i]? = some (r, o)) (hj : l[j]? = some (r', o')) (hij : i ≠ j) : r ≠ r' := fun h => hij (L.apart i j _ _ hi hj h)
theorem St.far (L : St F Nn H l) {p : Option Addr} (hp : ∀ i, p = some ⟨i, 0, none⟩ → i < F.size) (i : Nat) {r : Nat} {o : Obj} (hi : l[i]? = some (r, o)) : p ≠ some ⟨r, 0, none⟩ := by
  intro he
  have h1 := hp _ he
  rcases (L.own i r o hi).1 with h2 | h2
  · exact h2
  · omega
theorem St.push (L : St F S H l) (o : Obj) : St F S (H.push o) ((H.size, o) :: l) := by
  refine ⟨L.chg.trans (Chg.of_ext (ExtH.push _ _)), ?_, ?_⟩
  · intro i r ob h
    cases i with
    | zero => simp at h; obtain ⟨rfl, rfl⟩ := h; exact ⟨.inr L.chg.size, by rw [Array.getElem?_push, if_pos rfl]⟩
    | succ i =>
      have := L.own i r ob (by simpa using h)
      exact ⟨this.1, (ExtH.push H _).block_some this.2⟩
  · intro i j x y hi hj he
    cases i with
    | zero => cases j with
      | zero => rfl
      | succ j =>
        simp at hi hj
        subst hi
        have := L.lt (i := j) (r := y.1) (o := y.2) (by simpa using hj)
        simp at he
        omega
    | succ i => cases j with
      | zero =>
        simp at hi hj
        subst hj
        have := L.lt (i := i) (r := x.1) (o := x.2) (by simpa using hi)
        simp at he
        omega
      | succ j =>
        simp at hi hj
        rw [L.apart i j x y hi hj he]
theorem St.new (L : St F S H l) {o : Obj} {K : Nat → Heap → Prop} (k : ∀ r H1, St F S H1 ((r, o) :: l) → K r H1) : newD H o K := k _ _ (L.push o)
theorem St.new' (L : St F S H l) {o : Obj} {K : Nat → Heap → Prop} (k : ∀ r H1, r = H.size → ExtH H H1 → St F S H1 ((r, o) :: l) → K r H1) : newD H o K := k _ _ rfl (ExtH.push _ _) (L.push o)
theorem St.extend (L : St F S H l) (h : ExtH H H1) : St F S H1 l :=
  ⟨L.chg.trans (Chg.of_ext h), fun i r o hi => ⟨(L.own i r o hi).1, h.block_some (L.own i r o hi).2⟩, L.apart⟩
/-- A change that leaves the listed blocks. -/
theorem St.chgs (L : St F S H l) {S' : Nat → Prop} (h : Chg S' H H1) (hs : ∀ i, S' i → S i ∨ F.size ≤ i) (hl : ∀ (i r : Nat) (o : Obj), l[i]? = some (r, o) → ¬ S' r) : St F S H1 l :=
  ⟨⟨Nat.le_trans L.chg.size h.size, fun i hi hn => (h.same i (Nat.lt_of_lt_of_le hi L.chg.size) (fun hh => by rcases hs i hh with h1 | h1 <;> first | exact hn h1 | omega)).trans (L.chg.same i hi hn)⟩,
    fun i r o hi => ⟨(L.own i r o hi).1, h.block (hl i r o hi) (L.own i r o hi).2⟩, L.apart⟩
theorem St.at_ (L : St F S H l) (i : Nat) {r : Nat} {cs : List Value} {T : TypeId} {fr : Nat × Nat} {j : Nat} {v : Value} (hi : l[i]? = some (r, .cells ⟨cs⟩ T fr)) (hj : cs[j]? = some v) : hcell H ⟨r, j, none⟩ = some v := hcell_of (L.own i r _ hi).2 hj
theorem St.int (L : St F S H l) (i : Nat) {r : Nat} {cs : List Value} {T : TypeId} {fr : Nat × Nat} {j : Nat} {kd : IntKind} {n : Int} {K : Int → Prop} (hi : l[i]? = some (r, .cells ⟨cs⟩ T fr)) (hj : cs[j]? = some (.int kd n)) (k : K n) : ldInt H ⟨r, j, none⟩ kd K := ⟨n, L.at_ i hi hj, k⟩
theorem St.bool (L : St F S H l) (i : Nat) {r : Nat} {cs : List Value} {T : TypeId} {fr : Nat × Nat} {j : Nat} {n : Bool} {K : Bool → Prop} (hi : l[i]? = some (r, .cells ⟨cs⟩ T fr)) (hj : cs[j]? = some (.bool n)) (k : K n) : ldBool H ⟨r, j, none⟩ K := ⟨n, L.at_ i hi hj, k⟩
theorem St.str (L : St F S H l) (i : Nat) {r : Nat} {cs : List Value} {T : TypeId} {fr : Nat × Nat} {j : Nat} {n : ByteArray} {K : ByteArray → Prop} (hi : l[i]? = some (r, .cells ⟨cs⟩ T fr)) (hj : cs[j]? = some (.string n)) (k : K n) : ldStr H ⟨r, j, none⟩ K := ⟨n, L.at_ i hi hj, k⟩
theorem St.ptr (L : St F S H l) (i : Nat) {r : Nat} {cs : List Value} {T : TypeId} {fr : Nat × Nat} {j : Nat} {n : Option Addr} {K : Option Addr → Prop} (hi : l[i]? = some (r, .cells ⟨cs⟩ T fr)) (hj : cs[j]? = some (.pointer n)) (k : K n) : ldPtr H ⟨r, j, none⟩ K := ⟨n, L.at_ i hi hj, k⟩
theorem St.sl (L : St F S H l) (i : Nat) {r : Nat} {cs : List Value} {T : TypeId} {fr : Nat × Nat} {j : Nat} {p : Option Addr} {n c : Nat} {K : Option Addr → Nat → Nat → Prop} (hi : l[i]? = some (r, .cells ⟨cs⟩ T fr)) (hj : cs[j]? = some (.slice p n c)) (k : K p n c) : ldSl H ⟨r, j, none⟩ K := ⟨p, n, c, L.at_ i hi hj, k⟩
theorem St.map (L : St F S H l) (i : Nat) {r : Nat} {cs : List Value} {T : TypeId} {fr : Nat × Nat} {j : Nat} {n : Option Nat} {K : Option Nat → Prop} (hi : l[i]? = some (r, .cells ⟨cs⟩ T fr)) (hj : cs[j]? = some (.map n)) (k : K n) : ldMap H ⟨r, j, none⟩ K := ⟨n, L.at_ i hi hj, k⟩
theorem St.ifv (L : St F S H l) (i : Nat) {r : Nat} {cs : List Value} {T : TypeId} {fr : Nat × Nat} {j : Nat} {n : IV} {K : IV → Prop} (hi : l[i]? = some (r, .cells ⟨cs⟩ T fr)) (hj : cs[j]? = some n.v) (k : K n) : ldIf H ⟨r, j, none⟩ K := ⟨n, L.at_ i hi hj, k⟩
theorem St.ifmk (L : St F S H l) (i : Nat) {r : Nat} {cs : List Value} {T : TypeId} {fr : Nat × Nat} {j : Nat} {t : TypeId} {x : Value} {K : IV → Prop} (hi : l[i]? = some (r, .cells ⟨cs⟩ T fr)) (hj : cs[j]? = some (.iface t x)) (k : K (.mk t x)) : ldIf H ⟨r, j, none⟩ K := ⟨.mk t x, L.at_ i hi hj, k⟩
theorem St.ifnil (L : St F S H l) (i : Nat) {r : Nat} {cs : List Value} {T : TypeId} {fr : Nat × Nat} {j : Nat} {K : IV → Prop} (hi : l[i]? = some (r, .cells ⟨cs⟩ T fr)) (hj : cs[j]? = some .nilIface) (k : K .nil) : ldIf H ⟨r, j, none⟩ K := ⟨.nil, L.at_ i hi hj, k⟩
theorem St.fnv (L : St F S H l) (i : Nat) {r : Nat} {cs : List Value} {T : TypeId} {fr : Nat × Nat} {j : Nat} {n : FV} {K : FV → Prop} (hi : l[i]? = some (r, .cells ⟨cs⟩ T fr)) (hj : cs[j]? = some n.v) (k : K n) : ldFn H ⟨r, j, none⟩ K := ⟨n, L.at_ i hi hj, k⟩
theorem St.fnmk (L : St F S H l) (i : Nat) {r : Nat} {cs : List Value} {T : TypeId} {fr : Nat × Nat} {j : Nat} {fn : Fn} {x y : Array Value} {K : FV → Prop} (hi : l[i]? = some (r, .cells ⟨cs⟩ T fr)) (hj : cs[j]? = some (.func fn x y)) (k : K (.mk fn x y)) : ldFn H ⟨r, j, none⟩ K := ⟨.mk fn x y, L.at_ i hi hj, k⟩
/-- A listed block turns, and nothing else. -/
theorem St.upd (L : St F S H l) (i : Nat) {r : Nat} {o o' : Obj} (hi : l[i]? = some (r, o)) (u : Upd r o' H H1) : St F S H1 (l.set i (r, o')) := by
  have hr := L.own i r o hi
  have hil : i < l.length := by
    rcases Nat.lt_or_ge i l.length with h | h
    · exact h
    · rw [List.getElem?_eq_none h] at hi; cases hi
  refine ⟨⟨Nat.le_trans L.chg.size u.size, fun b hb hn => ?_⟩, ?_, ?_⟩
  · rw [u.same b (Nat.lt_of_lt_of_le hb L.chg.size) (by rintro rfl; rcases hr.1 with h | h <;> first | exact hn h | omega)]; exact L.chg.same b hb hn
  · intro k r' ob hk
    rw [List.getElem?_set] at hk
    split at hk
    · simp [hil] at hk
      obtain ⟨rfl, rfl⟩ := hk
      exact ⟨hr.1, u.at_⟩
    · rename_i hik
      have h1 := L.own k r' ob hk
      have hne : r' ≠ r := fun he => hik (L.apart i k (r, o) (r', ob) hi hk he.symm)
      exact ⟨h1.1, by rw [u.same r' (block_lt h1.2) hne]; exact h1.2⟩
  · intro a b x y ha hb hxy
    have key : ∀ (a : Nat) (x : Bk), (l.set i (r, o'))[a]? = some x → ∃ x', l[a]? = some x' ∧ x'.1 = x.1 := by
      intro a x ha
      rw [List.getElem?_set] at ha
      split at ha
      · rename_i hia
        subst hia
        simp [hil] at ha
        subst ha
        exact ⟨_, hi, rfl⟩
      · exact ⟨x, ha, rfl⟩
    obtain ⟨x', h1, h2⟩ := key a x ha
    obtain ⟨y', h3, h4⟩ := key b y hb
    exact L.apart a b x' y' h1 h3 (by rw [h2, h4, hxy])
theorem St.st (L : St F S H l) (i : Nat) {r : Nat} {cs : List Value} {T : TypeId} {j : Nat} {u v : Value} {K : Heap → Prop} (hi : l[i]? = some (r, .cells ⟨cs⟩ T)) (hj : cs[j]? = some u) (hv : isCell v = true)
    (k : ∀ H1, St F S H1 (l.set i (r, .cells ⟨cs.set j v⟩ T)) → K H1) : st1 H ⟨r, j, none⟩ v K :=
  st1_of (L.own i r _ hi).2 hj hv fun H1 u => k H1 (L.upd i hi u)
theorem St.call (L : St F S H l) {f : FuncId} {args : List Value} {v : Value} {Q : List PanicEntry → Heap → Prop} {K : Value → Heap → Prop} (hc : CallsH P f ⟨args⟩ H (Gives v H)) (k : ∀ H1, ExtH H H1 → St F S H1 l → K v H1) : callD P f args H Q K :=
  CallsH.mono hc fun e H1 ⟨he, hx⟩ => by subst he; exact k H1 hx (L.extend hx)
theorem St.tells (L : St F S H l) {f : FuncId} {args : List Value} {Q : List PanicEntry → Heap → Prop} {K : Value → Heap → Prop} (hc : CallsH P f ⟨args⟩ H (Tells H)) (k : ∀ b H1, ExtH H H1 → St F S H1 l → K (.bool b) H1) : callD P f args H Q K :=
  CallsH.mono hc fun e H1 ⟨⟨b, he⟩, hx⟩ => by subst he; exact k b H1 hx (L.extend hx)
theorem St.tail {x : Bk} (L : St F S H (x :: l)) : St F S H l :=
  ⟨L.chg, fun i r o h => L.own (i + 1) r o (by simpa using h), fun i j x y hi hj he => by have := L.apart (i + 1) (j + 1) x y (by simpa using hi) (by simpa using hj) he; omega⟩
/-- Only some of the blocks, in any order. -/
theorem St.pick (L : St F S H l) (is : List Nat) (hn : is.Nodup) {l' : List Bk} (h : l' = is.filterMap fun i => l[i]?) (hl : l'.length = is.length) : St F S H l' := by
  subst h
  have key : ∀ (is : List Nat), (is.filterMap fun i => l[i]?).length = is.length → ∀ (k : Nat) (x : Bk), (is.filterMap fun i => l[i]?)[k]? = some x → ∃ i, is[k]? = some i ∧ l[i]? = some x := by
    intro is
    induction is with
    | nil => intro _ k x h; simp at h
    | cons a is ih =>
      intro hl k x h
      rw [List.filterMap_cons] at hl h
      cases ha : l[a]? with
      | none =>
        rw [ha] at hl
        have := List.length_filterMap_le (fun i => l[i]?) is
        simp only [List.length_cons] at hl
        omega
      | some y =>
        rw [ha] at hl h
        replace hl := Nat.succ.inj hl
        cases k with
        | zero => simp at h; exact ⟨a, rfl, by rw [ha, h]⟩
        | succ k => obtain ⟨i, h1, h2⟩ := ih hl k x (by simpa using h); exact ⟨i, by simpa using h1, h2⟩
  refine ⟨L.chg, fun i r o hi => ?_, fun i j x y hi hj he => ?_⟩
  · obtain ⟨k, _, h2⟩ := key is hl i _ hi
    exact L.own k r o h2
  · obtain ⟨a, h1, h2⟩ := key is hl i x hi
    obtain ⟨b, h3, h4⟩ := key is hl j y hj
    have hab := L.apart a b x y h2 h4 he
    subst hab
    exact (List.getElem?_inj (by rcases Nat.lt_or_ge i is.length with h | h
                                 · exact h
                                 · rw [List.getElem?_eq_none h] at h1; cases h1) hn).1 (h1.trans h3.symm)
/-- A block is taken up: of the footprint, or new. -/
theorem St.take (L : St F S H l) {r : Nat} {o : Obj} (hs : S r ∨ F.size ≤ r) (hr : H[r]? = some o) (hl : ∀ (i r' : Nat) (o' : Obj), l[i]? = some (r', o') → r' ≠ r) : St F S H ((r, o) :: l) := by
  refine ⟨L.chg, fun i r' o' hi => ?_, fun i j x y hi hj he => ?_⟩
  · cases i with
    | zero => simp at hi; obtain ⟨rfl, rfl⟩ := hi; exact ⟨hs, hr⟩
    | succ i => exact L.own i r' o' (by simpa using hi)
  · cases i with
    | zero => cases j with
      | zero => rfl
      | succ j => simp at hi hj; subst hi; exact absurd he.symm (hl j y.1 y.2 (by simpa using hj))
    | succ i => cases j with
      | zero => simp at hi hj; subst hj; exact absurd he (hl i x.1 x.2 (by simpa using hi))
      | succ j => simp at hi hj; rw [L.apart i j x y hi hj he]
theorem St.make (L : St F S H l) {bytes : Nat} {zs : List Value} {E : TypeId} {a c : Int} {K : Nat → Nat → Nat → Heap → Prop} (hb : bytes ≠ 0) (h0 : 0 ≤ a) (h1 : a ≤ c) (h2 : (bytes : Int) * c ≤ 2 ^ 48)
    (k : ∀ r H1, ExtH H H1 → St F S H1 ((r, .cells ⟨repZ zs c.toNat⟩ E) :: l) → K r a.toNat c.toNat H1) : mkD H bytes zs E a c K := ⟨hb, h0, h1, h2, k _ _ (ExtH.push _ _) (L.push _)⟩
/-- The block of a text's bytes. -/
def strObj (s : ByteArray) (c : Nat) : Obj := .cells ⟨bytesOf s.data.toList ++ List.replicate (c - s.size) (.int .u8 0)⟩ 5 (c, c + 1)
theorem Str.of {r : Nat} {s : ByteArray} {sp : List Value} {T : TypeId} {fr : Nat × Nat} (h : H[r]? = some (.cells ⟨bytesOf s.data.toList ++ sp⟩ T fr)) : Str H r s := by
  refine ⟨block_lt h, fun j v hj => hcell_of h ?_⟩
  rw [List.getElem?_append_left]
  · exact hj
  · rcases Nat.lt_or_ge j (bytesOf s.data.toList).length with h | h
    · exact h
    · rw [List.getElem?_eq_none h] at hj; cases hj
theorem St.sb (L : St F S H l) {E : TypeId} {s : ByteArray} {K : Nat → Nat → Heap → Prop} (hs : s.size < 2 ^ 63) (k : ∀ r c H1, s.size ≤ c → St F S H1 ((r, .cells ⟨bytesOf s.data.toList ++ List.replicate (c - s.size) (.int .u8 0)⟩ E (c, c + 1)) :: l) → K r c H1) : sbD H E s K :=
  ⟨hs, fun cap hcap => k _ _ _ hcap (L.push _)⟩
end
theorem repZ_length (zs : List Value) (k : Nat) : (repZ zs k).length = k * zs.length := by
  have : (⟨repZ zs k⟩ : Array Value) = ⟨(List.replicate k zs).flatten⟩ := (repZ_spec zs k).trans (range_rep zs k)
  injection this with this
  rw [this]
  simp [List.length_flatten]
/-- A slice that the call grows: nil, or a block of its own, which heads the list of blocks. -/
inductive Grow (F : Heap) (S : Nat → Prop) (H : Heap) (b : List Bk) (E : TypeId) (z : Nat) : Option Addr → Nat → Nat → List Value → Prop
  | nil : St F S H b → Grow F S H b E z none 0 0 []
  | mk {r n c : Nat} {vs sp : List Value} : St F S H ((r, .cells ⟨vs ++ sp⟩ E) :: b) → vs.length = n * z → sp.length = (c - n) * z → n ≤ c → Grow F S H b E z (some ⟨r, 0, none⟩) n c vs
/-- Between two heaps a slice has grown: other blocks are as they were. -/
structure Grown (p p' : Option Addr) (H H1 : Heap) : Prop where
  size : H.size ≤ H1.size
  same : ∀ i, i < H.size → p ≠ some ⟨i, 0, none⟩ → H1[i]? = H[i]? ∧ p' ≠ some ⟨i, 0, none⟩
section
variable {F H H1 : Heap} {S : Nat → Prop} {b : List Bk} {E : TypeId} {z : Nat} {p : Option Addr} {n c : Nat} {vs : List Value}
theorem Grow.extend (g : Grow F S H b E z p n c vs) (e : ExtH H H1) : Grow F S H1 b E z p n c vs := by
  cases g with
  | nil L => exact .nil (L.extend e)
  | mk L h1 h2 h3 => exact .mk (L.extend e) h1 h2 h3
theorem Grow.st (g : Grow F S H b E z p n c vs) : St F S H b := by
  cases g with
  | nil L => exact L
  | mk L h1 h2 h3 => exact L.tail
theorem Grow.len (g : Grow F S H b E z p n c vs) : vs.length = n * z := by
  cases g with
  | nil L => simp
  | mk L h1 h2 h3 => exact h1
theorem Grow.lt (g : Grow F S H b E z p n c vs) {i : Nat} (h : p = some ⟨i, 0, none⟩) : i < H.size := by
  cases g with
  | nil L => cases h
  | mk L h1 h2 h3 => injection h with h; injection h with h; subst h; exact L.lt (i := 0) rfl
theorem Grow.what (g : Grow F S H b E z p n c vs) : (p = none ∧ n = 0 ∧ c = 0 ∧ vs = []) ∨ ∃ r sp, p = some ⟨r, 0, none⟩ ∧ vs.length = n * z ∧ n ≤ c ∧ H[r]? = some (.cells ⟨vs ++ sp⟩ E) ∧ (S r ∨ F.size ≤ r) := by
  cases g with
  | nil L => exact .inl ⟨rfl, rfl, rfl, rfl⟩
  | mk L h1 h2 h3 => exact .inr ⟨_, _, rfl, h1, h3, (L.own 0 _ _ rfl).2, (L.own 0 _ _ rfl).1⟩
theorem Grow.from_ (g : Grow F S H b E z p n c vs) {i : Nat} (h : p = some ⟨i, 0, none⟩) : S i ∨ F.size ≤ i := by
  cases g with
  | nil L => cases h
  | mk L h1 h2 h3 => injection h with h; injection h with h; subst h; exact (L.own 0 _ _ rfl).1
/-- Append to a slice of one's own. -/
theorem Grow.app (g : Grow F S H b E z p n c vs) {bytes m : Nat} {zs us : List Value} {K : Option Addr → Nat → Nat → Heap → Prop} (hz : zs.length = z) (hb : bytes ≠ 0) (hs : (2 * (n + m) + 768) * bytes ≤ 2 ^ 48) (hu : us.length = m * z) (hm : 0 < m) (hcell : ∀ v ∈ us, isCell v = true)
    (k : ∀ p' c' H1, Grow F S H1 b E z p' (n + m) c' (vs ++ us) → Grown p p' H H1 → K p' (n + m) c' H1) : apV H z bytes zs E p n c m us K := by
  cases g with
  | nil L =>
    refine ⟨fun h => by omega, fun _ => ⟨hb, ?_, [], by simp, fun j v h => by simp at h, fun cap hcap => ?_⟩⟩
    · exact Nat.le_trans (Nat.mul_le_mul_right _ (nextcap_le (by omega))) hs
    · exact k _ _ _ (.mk (L.push _) (by simpa using hu) (by rw [repZ_length, hz]) hcap) ⟨(ExtH.push _ _).size, fun i hi _ => ⟨(ExtH.push _ _).block i hi, by simp; omega⟩⟩
  | mk L h1 h2 h3 =>
    rename_i r sp
    refine ⟨fun h => ?_, fun h => ⟨hb, ?_, vs, h1, fun j v hj => ⟨_, rfl, ?_⟩, fun cap hcap => ?_⟩⟩
    · show stCs _ H 0 us _
      have hl : us.length ≤ sp.length := by rw [hu, h2]; exact Nat.mul_le_mul_right _ (by omega)
      have key : ∀ (us : List Value) (H : Heap) (i : Nat) (cs : List Value), St F S H ((r, .cells ⟨cs⟩ E) :: b) → (∀ v ∈ us, isCell v = true) → n * z + i + us.length ≤ cs.length →
          (∀ H1, St F S H1 ((r, .cells ⟨cs.take (n * z + i) ++ us ++ cs.drop (n * z + i + us.length)⟩ E) :: b) → H.size ≤ H1.size → (∀ i, i < H.size → i ≠ r → H1[i]? = H[i]?) → K (some ⟨r, 0, none⟩) (n + m) c H1) → stCs ((⟨r, 0, none⟩ : Addr).add (n * z)) H i us (fun H1 => K (some ⟨r, 0, none⟩) (n + m) c H1) := by
        intro us
        induction us with
        | nil =>
          intro H i cs L _ hl k
          simp only [List.append_nil, List.length_nil, Nat.add_zero, List.take_append_drop] at k
          exact k H L (Nat.le_refl _) (fun _ _ _ => rfl)
        | cons v us ih =>
          intro H i cs L hc hl k
          simp only [stCs]
          have hi : n * z + i < cs.length := by simp at hl; omega
          rw [add_add', add_mk, Nat.zero_add]
          refine st1_of (L.own 0 _ _ rfl).2 (List.getElem?_eq_getElem hi) (hc v (List.mem_cons_self ..)) ?_
          intro H1 u1
          have L1 := St.upd L 0 rfl u1
          refine ih H1 (i + 1) (cs.set (n * z + i) v) L1 (fun v hv => hc v (List.mem_cons_of_mem _ hv)) (by simp at hl ⊢; omega) ?_
          intro H2 L2 sz sm
          refine k H2 ?_ (Nat.le_trans u1.size sz) (fun i hi hn => (sm i (Nat.lt_of_lt_of_le hi u1.size) hn).trans (u1.same i hi hn))
          have e : (cs.set (n * z + i) v).take (n * z + (i + 1)) ++ us ++ (cs.set (n * z + i) v).drop (n * z + (i + 1) + us.length) = cs.take (n * z + i) ++ (v :: us) ++ cs.drop (n * z + i + (v :: us).length) := by
            rw [show n * z + (i + 1) = n * z + i + 1 from by omega, List.take_add_one, List.take_set_of_le (by omega)]
            simp only [List.getElem?_set_self hi, Option.toList_some]
            rw [List.drop_set_of_lt (by omega)]
            simp only [List.append_assoc, List.singleton_append, List.cons_append, List.nil_append, List.length_cons, List.append_cancel_left_eq]
            rw [show n * z + i + 1 + us.length = n * z + i + (us.length + 1) from by omega]
          rwa [e] at L2
      refine key us H 0 (vs ++ sp) L hcell (by simp; omega) ?_
      intro H1 L1 sz sm
      refine k _ _ _ ?_ ⟨sz, fun i hi hn => ⟨sm i hi (fun he => hn (by rw [he])), hn⟩⟩
      have e : (vs ++ sp).take (n * z + 0) ++ us ++ (vs ++ sp).drop (n * z + 0 + us.length) = (vs ++ us) ++ sp.drop us.length := by
        rw [Nat.add_zero, ← h1, List.take_left, List.drop_append]
        simp
      rw [e] at L1
      refine .mk L1 (by simp [h1, hu, Nat.add_mul]) ?_ h
      simp [h2, hu, ← Nat.sub_mul]
      congr 1
      omega
    · exact Nat.le_trans (Nat.mul_le_mul_right _ (nextcap_le h)) hs
    · have hr := (L.own 0 _ _ rfl).2
      rw [add_mk, Nat.zero_add]
      refine hcell_of hr ?_
      rw [List.getElem?_append_left]
      · exact hj
      · rcases Nat.lt_or_ge j vs.length with h | h
        · exact h
        · rw [List.getElem?_eq_none h] at hj; cases hj
    · exact k _ _ _ (.mk (L.tail.push _) (by simp [h1, hu, Nat.add_mul]) (by rw [repZ_length, hz]) hcap) ⟨(ExtH.push _ _).size, fun i hi _ => ⟨(ExtH.push _ _).block i hi, by simp; omega⟩⟩
/-- The slice at last: rows of records, in blocks made since. -/
theorem Grow.rows {α : Type} {f : α → List Value} {l : List α} (g : Grow F S H b E z p n c (l.flatMap f)) (hz : ∀ x, (f x).length = z) (hz0 : 0 < z) : RowsAt f z H p l ∧ l.length = n := by
  have hl : l.length * z = n * z := by rw [← flat_length hz l]; exact g.len
  refine ⟨?_, Nat.eq_of_mul_eq_mul_right hz0 hl⟩
  generalize hvs : l.flatMap f = vs at g
  cases g with
  | nil L =>
    left
    cases l with
    | nil => rfl
    | cons x l => simp [Nat.succ_mul] at hl; omega
  | mk L h1 h2 h3 =>
    refine RowsAt.of_block (L.own 0 _ _ rfl).2 ?_
    intro i x hi j v hj
    rw [← hvs]
    exact flat_get hz l _ i x hi j v hj
end
end Go.Den

/- Structs held against one another. -/
set_option linter.unusedVariables false
set_option linter.unusedSimpArgs false
namespace Go.Den
open Go
section
variable {P : Program}
theorem part_leaf {t : TypeId} {d : TypeDesc} {xs : Array Value} {off : Nat} {v : Value} (hu : P.underlying t = some d) (ha : aggT P t = false) (hx : xs[off]? = some v) (w : World) : (part t xs off).run P w = .ok v w := by
  unfold part
  rw [Sem.run_bind, run_isAgg hu, ha]
  simp only [Result.andThen_ok, Bool.false_eq_true, if_false, hx]
  rfl
theorem part_agg {t : TypeId} {d : TypeDesc} {i : TypeInfo} {xs : Array Value} {off : Nat} (hu : P.underlying t = some d) (hi : P.info? t = some i) (ha : aggT P t = true) (w : World) : (part t xs off).run P w = .ok (.agg (xs.extract off (off + i.size))) w := by
  unfold part
  rw [Sem.run_bind, run_isAgg hu, ha]
  simp only [Result.andThen_ok, if_true]
  rw [Sem.run_bind, run_size hi]
  rfl
theorem equalIn_int {t : TypeId} {kd : IntKind} {d : Nat} {a b : Int} (hu : P.underlying t = some (.int kd)) (w : World) : (Op.equalIn (d + 1) t (.int kd a) (.int kd b)).run P w = .ok (a == b) w := by
  rw [Op.equalIn, Sem.run_bind, run_und hu]
  simp
theorem equalIn_string {t : TypeId} {d : Nat} {a b : ByteArray} (hu : P.underlying t = some .string) (w : World) : (Op.equalIn (d + 1) t (.string a) (.string b)).run P w = .ok (a == b) w := by
  rw [Op.equalIn, Sem.run_bind, run_und hu]
  rfl
theorem equalIn_bool {t : TypeId} {d : Nat} {a b : Bool} (hu : P.underlying t = some .bool) (w : World) : (Op.equalIn (d + 1) t (.bool a) (.bool b)).run P w = .ok (a == b) w := by
  rw [Op.equalIn, Sem.run_bind, run_und hu]
  rfl
inductive EqF (P : Program) (d : Nat) (xs ys : Array Value) : List Field → List Bool → Prop where
  | nil : EqF P d xs ys [] []
  | cons {f : Field} {fs : List Field} {b : Bool} {bs : List Bool} {vx vy : Value} (hn : f.name ≠ "_") (hx : ∀ w, (part f.type xs f.offset).run P w = .ok vx w) (hy : ∀ w, (part f.type ys f.offset).run P w = .ok vy w)
      (he : ∀ w, (Op.equalIn d f.type vx vy).run P w = .ok b w) (r : EqF P d xs ys fs bs) : EqF P d xs ys (f :: fs) (b :: bs)
theorem EqF.loop {d : Nat} {xs ys : Array Value} {fs : List Field} {bs : List Bool} (h : EqF P d xs ys fs bs) (w : World) :
    (forIn fs ((none, ()) : Option Bool × Unit) fun f _ => (do
      if f.name ≠ "_" then
        let vx ← part f.type xs f.offset
        let vy ← part f.type ys f.offset
        let b ← Op.equalIn d f.type vx vy
        if (!b) = true then pure (ForInStep.done (some false, ())) else pure (ForInStep.yield (none, ()))
      else pure (ForInStep.yield (none, ())) : Sem (ForInStep (Option Bool × Unit)))).run P w = .ok (if bs.all id then (none, ()) else (some false, ())) w := by
  induction h with
  | nil => rfl
  | @cons f fs b bs vx vy hn hx hy he r ih =>
    rw [List.forIn_cons, Sem.run_bind]
    rw [if_pos hn, Sem.run_bind, hx, Result.andThen_ok, Sem.run_bind, hy, Result.andThen_ok, Sem.run_bind, he, Result.andThen_ok]
    cases b with
    | true =>
      simp only [Bool.not_true, Bool.false_eq_true, if_false, Sem.run_pure, Result.andThen_ok]
      rw [ih]
      simp
    | false =>
      simp only [Bool.not_false, if_true, Sem.run_pure, Result.andThen_ok]
      simp
theorem equalIn_struct {t : TypeId} {fs : Array Field} {d : Nat} {xs ys : Array Value} {bs : List Bool} (hu : P.underlying t = some (.struct fs)) (hs : P.stoodInHeld t = false) (h : EqF P d xs ys fs.toList bs) (w : World) :
    (Op.equalIn (d + 1) t (.agg xs) (.agg ys)).run P w = .ok (bs.all id) w := by
  rw [Op.equalIn, Sem.run_bind, run_und hu, Result.andThen_ok]
  show (program >>= _).run P w = _
  rw [Sem.run_bind]
  show (if P.stoodInHeld t = true then _ else _ : Sem Bool).run P w = _
  rw [if_neg (by rw [hs]; simp)]
  have hl := h.loop w
  have e := Array.forIn_toList (m := Sem) (xs := fs) (b := ((none, ()) : Option Bool × Unit)) (f := fun f _ => (do
      if f.name ≠ "_" then
        let vx ← part f.type xs f.offset
        let vy ← part f.type ys f.offset
        let b ← Op.equalIn d f.type vx vy
        if (!b) = true then pure (ForInStep.done (some false, ())) else pure (ForInStep.yield (none, ()))
      else pure (ForInStep.yield (none, ())) : Sem (ForInStep (Option Bool × Unit))))
  rw [e] at hl
  refine (Sem.run_bind ..).trans ?_
  refine (congrArg (fun r => Result.andThen r _) hl).trans ?_
  cases bs.all id <;> rfl
theorem rawB_struct {op : BinOp} {T : TypeId} {fs : Array Field} {xs ys : Array Value} {bs : List Bool} {k : Bool → Prop} (hu : P.underlying T = some (.struct fs)) (hs : P.stoodInHeld T = false) (hg : P.eqGuardType P.depth T = false) (h : EqF P 9999 xs ys fs.toList bs) (hk : k (bs.all id)) :
    rawB P op T (.agg xs) (.agg ys) k := by
  refine ⟨_, fun w => ?_, fun cx cy w => ?_, hk⟩
  · rw [eq_one]; exact equalIn_struct hu hs h w
  · unfold eqGuard
    cases op <;> try rfl
    all_goals
      show (program >>= _).run P w = _
      rw [Sem.run_bind]
      show (if (!(P.eqGuardType P.depth T)) = true then _ else _ : Sem Unit).run P w = _
      rw [hg]
      rfl
end
end Go.Den

/- Maps: what is found, put and counted at a map that is known. -/
set_option linter.unusedVariables false
set_option linter.unusedSimpArgs false
namespace Go.Den
open Go
section
variable {P : Program}
theorem pureEq_int {t : TypeId} {kd : IntKind} {d : Nat} {a b : Int} (hu : P.underlying t = some (.int kd)) : pureV P (Op.equalIn (d + 1) t (.int kd a) (.int kd b)) = some (a == b) := by
  rw [Op.equalIn, pureV_bind, pureV_underlying hu]
  simp [pureV]
  rfl
theorem pureEq_string {t : TypeId} {d : Nat} {a b : ByteArray} (hu : P.underlying t = some .string) : pureV P (Op.equalIn (d + 1) t (.string a) (.string b)) = some (a == b) := by
  rw [Op.equalIn, pureV_bind, pureV_underlying hu]
  rfl
theorem purePart_leaf {t : TypeId} {d : TypeDesc} {xs : Array Value} {off : Nat} {v : Value} (hu : P.underlying t = some d) (ha : aggT P t = false) (hx : xs[off]? = some v) : pureV P (part t xs off) = some v := by
  unfold part
  rw [pureV_bind, pureV_isAgg hu, ha]
  simp only [Option.bind_some, Bool.false_eq_true, if_false, hx]
  rfl
inductive PEqF (P : Program) (d : Nat) (xs ys : Array Value) : List Field → List Bool → Prop where
  | nil : PEqF P d xs ys [] []
  | cons {f : Field} {fs : List Field} {b : Bool} {bs : List Bool} {vx vy : Value} (hn : f.name ≠ "_") (hx : pureV P (part f.type xs f.offset) = some vx) (hy : pureV P (part f.type ys f.offset) = some vy)
      (he : pureV P (Op.equalIn d f.type vx vy) = some b) (r : PEqF P d xs ys fs bs) : PEqF P d xs ys (f :: fs) (b :: bs)
theorem PEqF.loop {d : Nat} {xs ys : Array Value} {fs : List Field} {bs : List Bool} (h : PEqF P d xs ys fs bs) :
    pureV P (forIn fs ((none, ()) : Option Bool × Unit) fun f _ => (do
      if f.name ≠ "_" then
        let vx ← part f.type xs f.offset
        let vy ← part f.type ys f.offset
        let b ← Op.equalIn d f.type vx vy
        if (!b) = true then pure (ForInStep.done (some false, ())) else pure (ForInStep.yield (none, ()))
      else pure (ForInStep.yield (none, ())) : Sem (ForInStep (Option Bool × Unit)))) = some (if bs.all id then (none, ()) else (some false, ())) := by
  induction h with
  | nil => rfl
  | @cons f fs b bs vx vy hn hx hy he r ih =>
    rw [List.forIn_cons, pureV_bind]
    rw [if_pos hn, pureV_bind, hx, Option.bind_some, pureV_bind, hy, Option.bind_some, pureV_bind, he, Option.bind_some]
    cases b with
    | true =>
      simp only [Bool.not_true, Bool.false_eq_true, if_false]
      show (some (ForInStep.yield ((none, ()) : Option Bool × Unit))).bind _ = _
      rw [Option.bind_some]
      simp only
      rw [ih]
      simp
    | false =>
      simp only [Bool.not_false, if_true]
      show (some (ForInStep.done ((some false, ()) : Option Bool × Unit))).bind _ = _
      rw [Option.bind_some]
      simp
      rfl
theorem pureEq_struct {t : TypeId} {fs : Array Field} {d : Nat} {xs ys : Array Value} {bs : List Bool} (hu : P.underlying t = some (.struct fs)) (hs : P.stoodInHeld t = false) (h : PEqF P d xs ys fs.toList bs) :
    pureV P (Op.equalIn (d + 1) t (.agg xs) (.agg ys)) = some (bs.all id) := by
  rw [Op.equalIn, pureV_bind, pureV_underlying hu, Option.bind_some]
  show pureV P (program >>= _) = _
  rw [pureV_bind]
  show pureV P (if P.stoodInHeld t = true then _ else _ : Sem Bool) = _
  rw [if_neg (by rw [hs]; simp)]
  have hl := h.loop
  have e := Array.forIn_toList (m := Sem) (xs := fs) (b := ((none, ()) : Option Bool × Unit)) (f := fun f _ => (do
      if f.name ≠ "_" then
        let vx ← part f.type xs f.offset
        let vy ← part f.type ys f.offset
        let b ← Op.equalIn d f.type vx vy
        if (!b) = true then pure (ForInStep.done (some false, ())) else pure (ForInStep.yield (none, ()))
      else pure (ForInStep.yield (none, ())) : Sem (ForInStep (Option Bool × Unit))))
  rw [e] at hl
  refine (pureV_bind ..).trans ?_
  refine (congrArg (fun r => Option.bind r _) hl).trans ?_
  cases bs.all id <;> rfl
/-! ### Keys -/
/-- The first entry whose key is equal. -/
def fnd (eqv : Value → Bool) : List MapEntry → Nat → Option (Nat × Value)
  | [], _ => none
  | e :: es, i => if eqv e.key then some (i, e.val) else fnd eqv es (i + 1)
theorem findAsking_pure {kt : TypeId} {k : Value} {eqv : Value → Bool} : ∀ (es : List MapEntry) (i : Nat), (∀ e ∈ es, pureV P (Op.equal kt k e.key) = some (eqv e.key)) → pureV P (Instr.findAsking kt k es i) = some (fnd eqv es i) := by
  intro es
  induction es with
  | nil => intro i _; rfl
  | cons e es ih =>
    intro i h
    rw [Instr.findAsking, pureV_bind, h e (List.mem_cons_self ..), Option.bind_some, fnd]
    cases eqv e.key with
    | true => rfl
    | false => exact ih (i + 1) fun x hx => h x (List.mem_cons_of_mem _ hx)
theorem findNow_eq {d : TypeDesc} {k : Value} {eqv : Value → Bool} : ∀ (es : List MapEntry) (i : Nat), (∀ e ∈ es, Instr.sameNow d k e.key = some (eqv e.key)) → Instr.findNow d k es i = some (fnd eqv es i) := by
  intro es
  induction es with
  | nil => intro i _; rfl
  | cons e es ih =>
    intro i h
    rw [Instr.findNow, h e (List.mem_cons_self ..), fnd]
    cases eqv e.key with
    | true => rfl
    | false => exact ih (i + 1) fun x hx => h x (List.mem_cons_of_mem _ hx)
/-- The key's type is one that the model looks up at once: numbers and texts. -/
theorem findKey_now {kt : TypeId} {d : TypeDesc} {k : Value} {eqv : Value → Bool} {es : List MapEntry} (hu : P.underlying kt = some d) (h : ∀ e ∈ es, Instr.sameNow d k e.key = some (eqv e.key)) : pureV P (Instr.findKey kt k es) = some (fnd eqv es 0) := by
  unfold Instr.findKey
  rw [pureV_bind, pureV_underlying hu, Option.bind_some, findNow_eq es 0 h]
  rfl
/-- A struct as key. -/
theorem findKey_struct {kt : TypeId} {fs : Array Field} {k : Value} {eqv : Value → Bool} {es : List MapEntry} (hu : P.underlying kt = some (.struct fs)) (h : ∀ e ∈ es, pureV P (Op.equal kt k e.key) = some (eqv e.key)) : pureV P (Instr.findKey kt k es) = some (fnd eqv es 0) := by
  unfold Instr.findKey
  rw [pureV_bind, pureV_underlying hu, Option.bind_some]
  cases es with
  | nil => rfl
  | cons e es =>
    have : Instr.findNow (.struct fs) k (e :: es) 0 = none := rfl
    rw [this]
    exact findAsking_pure (e :: es) 0 h
theorem checkKey_int {b : Bool} {n : Nat} {t : TypeId} {kd : IntKind} {v : Value} (hu : P.underlying t = some (.int kd)) : pureV P (Instr.checkKey b (n + 1) t v) = some () := by
  rw [Instr.checkKey, pureV_bind, pureV_underlying hu, Option.bind_some]
  cases v <;> rfl
theorem checkKey_string {b : Bool} {n : Nat} {t : TypeId} {v : Value} (hu : P.underlying t = some .string) : pureV P (Instr.checkKey b (n + 1) t v) = some () := by
  rw [Instr.checkKey, pureV_bind, pureV_underlying hu, Option.bind_some]
  cases v <;> rfl
inductive PKey (P : Program) (b : Bool) (n : Nat) (cs : Array Value) : List Field → Prop where
  | nil : PKey P b n cs []
  | cons {f : Field} {fs : List Field} {v : Value} (hn : f.name ≠ "_") (hx : pureV P (part f.type cs f.offset) = some v) (hk : pureV P (Instr.checkKey b n f.type v) = some ()) (r : PKey P b n cs fs) : PKey P b n cs (f :: fs)
theorem PKey.loop {b : Bool} {n : Nat} {cs : Array Value} {fs : List Field} (h : PKey P b n cs fs) : pureV P (forIn fs PUnit.unit fun f _ => (do
            if f.name ≠ "_" then
              let v ← part f.type cs f.offset
              Instr.checkKey b n f.type v
              pure (ForInStep.yield PUnit.unit)
            else pure (ForInStep.yield PUnit.unit) : Sem (ForInStep PUnit))) = some PUnit.unit := by
  induction h with
  | nil => rfl
  | @cons f fs v hn hx hk r ih =>
    rw [List.forIn_cons, pureV_bind]
    rw [if_pos hn, pureV_bind, hx, Option.bind_some, pureV_bind, hk, Option.bind_some]
    exact ih
theorem checkKey_struct {b : Bool} {n : Nat} {t : TypeId} {fs : Array Field} {cs : Array Value} (hu : P.underlying t = some (.struct fs)) (h : PKey P b n cs fs.toList) : pureV P (Instr.checkKey b (n + 1) t (.agg cs)) = some () := by
  rw [Instr.checkKey, pureV_bind, pureV_underlying hu, Option.bind_some]
  dsimp only
  rw [pureV_bind, ← Array.forIn_toList]
  have hl := h.loop
  refine (congrArg (fun r => Option.bind r _) hl).trans ?_
  rfl
/-! ### The steps -/
variable {H : Heap} {Q : List PanicEntry → Heap → Prop}
theorem SemH_getObj {r : Nat} {K : Obj → Heap → Prop} {Q : Value → Heap → Prop} : SemH P (getObj r) H K Q = (∃ o, H[r]? = some o ∧ isCells o = false ∧ K o H) := rfl
theorem lookupD {t kt et r : Nat} {es : Array MapEntry} {clock : Nat} {k z : Value} {eqv : Value → Bool} {ok : Bool} {K : Value → Heap → Prop} (hu : P.underlying t = some (.map kt et)) (hm : H[r]? = some (.map es clock))
    (hc : pureV P (Instr.checkKey es.isEmpty 10000 kt k) = some ()) (hf : pureV P (Instr.findKey kt k es.toList) = some (fnd eqv es.toList 0)) (hz : pureV P (zeroValue et) = some z)
    (hk : K (match fnd eqv es.toList 0 with | some (_, v) => if ok then .tuple #[v, .bool true] else v | none => if ok then .tuple #[z, .bool false] else z) H) : valD P (Instr.lookup t (.map (some r)) k ok) H Q K := by
  refine ⟨?_⟩
  unfold Instr.lookup
  rw [SemH_bind]
  refine semH_of_pure (pureV_underlying hu) ?_
  dsimp only
  rw [SemH_bind, SemH_getObj]
  refine ⟨_, hm, rfl, ?_⟩
  dsimp only
  rw [SemH_bind, SemH_pure, SemH_bind]
  refine semH_of_pure hc ?_
  rw [SemH_bind]
  refine semH_of_pure hf ?_
  cases hh : fnd eqv es.toList 0 with
  | some p =>
    obtain ⟨i, v⟩ := p
    rw [hh] at hk
    dsimp only
    rw [SemH_bind, SemH_pure, SemH_pure]
    exact hk
  | none =>
    rw [hh] at hk
    dsimp only
    rw [SemH_bind]
    refine semH_of_pure hz ?_
    rw [SemH_bind, SemH_pure, SemH_pure]
    exact hk
theorem lookupNil {t kt et : Nat} {k z : Value} {ok : Bool} {K : Value → Heap → Prop} (hu : P.underlying t = some (.map kt et))
    (hc : pureV P (Instr.checkKey true 10000 kt k) = some ()) {d : TypeDesc} (hkt : P.underlying kt = some d) (hz : pureV P (zeroValue et) = some z)
    (hk : K (if ok then .tuple #[z, .bool false] else z) H) : valD P (Instr.lookup t (.map none) k ok) H Q K := by
  refine ⟨?_⟩
  unfold Instr.lookup
  rw [SemH_bind]
  refine semH_of_pure (pureV_underlying hu) ?_
  dsimp only
  rw [SemH_bind, SemH_pure, SemH_bind]
  refine semH_of_pure hc ?_
  rw [SemH_bind]
  have hf : pureV P (Instr.findKey kt k []) = some none := by
    unfold Instr.findKey
    rw [pureV_bind, pureV_underlying hkt]
    rfl
  refine semH_of_pure hf ?_
  dsimp only
  rw [SemH_bind]
  refine semH_of_pure hz ?_
  rw [SemH_bind, SemH_pure, SemH_pure]
  exact hk
/-- A key that is not there yet. -/
theorem mapPut_new {t kt et r : Nat} {es : Array MapEntry} {clock : Nat} {k v : Value} {eqv : Value → Bool} {K : Heap → Prop} (hu : P.underlying t = some (.map kt et)) (hm : H[r]? = some (.map es clock))
    (hc : pureV P (Instr.checkKey false 10000 kt k) = some ()) (hf : pureV P (Instr.findKey kt k es.toList) = some (fnd eqv es.toList 0)) (hn : fnd eqv es.toList 0 = none)
    (hk : K (H.setIfInBounds r (.map (es.push { key := k, val := v, born := clock }) (clock + 1)))) : uniD P (Instr.mapUpdate t (.map (some r)) k v) H Q K := by
  refine ⟨?_⟩
  unfold Instr.mapUpdate
  rw [SemH_bind]
  refine semH_of_pure (pureV_underlying hu) ?_
  dsimp only
  rw [SemH_bind, SemH_getObj]
  refine ⟨_, hm, rfl, ?_⟩
  dsimp only
  rw [SemH_bind]
  refine semH_of_pure hc ?_
  rw [SemH_bind]
  refine semH_of_pure hf ?_
  rw [hn]
  dsimp only
  exact ⟨_, hm, rfl, hk⟩
/-- A key that is there: its value turns; the key that is put is the same, bit for bit. -/
theorem mapPut_old {t kt et r i : Nat} {es : Array MapEntry} {clock : Nat} {k v u : Value} {e : MapEntry} {eqv : Value → Bool} {K : Heap → Prop} (hu : P.underlying t = some (.map kt et)) (hm : H[r]? = some (.map es clock))
    (hc : pureV P (Instr.checkKey false 10000 kt k) = some ()) (hf : pureV P (Instr.findKey kt k es.toList) = some (fnd eqv es.toList 0)) (hn : fnd eqv es.toList 0 = some (i, u)) (he : es[i]? = some e) (hb : Instr.sameBits 10000 e.key k = true)
    (hk : K (H.setIfInBounds r (.map (es.modify i fun e => { e with key := k, val := v }) clock))) : uniD P (Instr.mapUpdate t (.map (some r)) k v) H Q K := by
  refine ⟨?_⟩
  unfold Instr.mapUpdate
  rw [SemH_bind]
  refine semH_of_pure (pureV_underlying hu) ?_
  dsimp only
  rw [SemH_bind, SemH_getObj]
  refine ⟨_, hm, rfl, ?_⟩
  dsimp only
  rw [SemH_bind]
  refine semH_of_pure hc ?_
  rw [SemH_bind]
  refine semH_of_pure hf ?_
  rw [hn]
  dsimp only
  rw [SemH_bind]
  have hs : pureV P (Instr.keyThatStays (((es[i]?).map (·.key)).getD k) k) = some k := by
    unfold Instr.keyThatStays
    rw [he]
    simp only [Option.map_some, Option.getD_some, hb, if_true]
    rfl
  refine semH_of_pure hs ?_
  exact ⟨_, hm, rfl, hk⟩
theorem mapLen {ts : Array TypeId} {t kt et r : Nat} {T : TypeId} {es : Array MapEntry} {clock : Nat} {K : Value → Heap → Prop} (ht : ts[0]? = some t) (hu : P.underlying t = some (.map kt et)) (hm : H[r]? = some (.map es clock)) (hk : K (.int .i64 es.size) H) :
    valD P (Builtin.len_ ts T ⟨[.map (some r)]⟩) H Q K := by
  refine ⟨?_⟩
  unfold Builtin.len_
  have h0 : (⟨[Value.map (some r)]⟩ : Array Value)[0]? = some (.map (some r)) := rfl
  rw [ht, h0]
  rw [SemH_bind]
  refine semH_of_pure (pureV_underlying hu) ?_
  dsimp only
  rw [SemH_bind, SemH_getObj]
  exact ⟨_, hm, rfl, hk⟩
theorem mapLenNil {ts : Array TypeId} {t kt et : Nat} {T : TypeId} {K : Value → Heap → Prop} (ht : ts[0]? = some t) (hu : P.underlying t = some (.map kt et)) (hk : K (.int .i64 0) H) :
    valD P (Builtin.len_ ts T ⟨[.map none]⟩) H Q K := by
  refine ⟨?_⟩
  unfold Builtin.len_
  have h0 : (⟨[Value.map none]⟩ : Array Value)[0]? = some (.map none) := rfl
  rw [ht, h0]
  rw [SemH_bind]
  refine semH_of_pure (pureV_underlying hu) ?_
  exact hk
end
end Go.Den

/- Calls through an interface. -/
set_option linter.unusedVariables false
set_option linter.unusedSimpArgs false
namespace Go.Den
open Go
/-- The type's own method of that name is function f; pr: it takes the pointer. -/
def mthOk (P : Program) (t : TypeId) (name : String) (f : FuncId) (pr : Bool) : Bool :=
  match P.info? t with
  | some i => match i.methods.find? (fun m => m.name == name) with
    | some m => match m.func with
      | some (g, b) => m.path.isEmpty && (g == f) && (b == pr)
      | none => false
    | none => false
  | none => false
def ptrT (P : Program) (t : TypeId) : Bool := match P.underlying t with | some (.pointer _) => true | _ => false
section
variable {P : Program} {H : Heap}
theorem SemH_typeInfo {t : TypeId} {i : TypeInfo} (hi : P.info? t = some i) {H : Heap} {K : TypeInfo → Heap → Prop} {Q : Value → Heap → Prop} : SemH P (typeInfo t) H K Q = K i H := by
  show SemH P (match P.info? t with | some d => pure d | none => stuck "no such type") H K Q = _
  rw [hi]; rfl
theorem SemH_underlying {t : TypeId} {d : TypeDesc} (hu : P.underlying t = some d) {H : Heap} {K : TypeDesc → Heap → Prop} {Q : Value → Heap → Prop} : SemH P (underlying t) H K Q = K d H := by
  show SemH P (match P.underlying t with | some d => pure d | none => stuck "no such type") H K Q = _
  rw [hu]; rfl
theorem methodH_ptr {t : TypeId} {x : Value} {name : String} {f : FuncId} (hm : mthOk P t name f true = true) (hp : ptrT P t = true) (n : Nat) (H : Heap) (K : FuncId × Value → Heap → Prop) (Q : Value → Heap → Prop) (hk : K (f, x) H) :
    SemH P (method (n + 1) t x name) H K Q := by
  unfold mthOk at hm
  unfold ptrT at hp
  split at hm
  · rename_i i hi
    split at hm
    · rename_i m hf
      split at hm
      · rename_i g b hg
        simp only [Bool.and_eq_true, beq_iff_eq] at hm
        obtain ⟨⟨h1, rfl⟩, rfl⟩ := hm
        split at hp
        · rename_i e hu
          have hpath : m.path = #[] := by simpa using h1
          rw [method, SemH_bind, SemH_typeInfo hi]
          simp only [hf, hpath, hg]
          rw [SemH_bind]
          rw [follow, SemH_pure]
          rw [SemH_bind]
          unfold receiverAt
          rw [SemH_bind, SemH_underlying hu]
          exact hk
        · cases hp
      · cases hm
    · cases hm
  · cases hm
theorem callI_i {t : TypeId} {x : Value} {name : String} {f : FuncId} {args : List Value} {Q : List PanicEntry → Heap → Prop} {K : Value → Heap → Prop} (hm : mthOk P t name f true = true) (hp : ptrT P t = true) (hf : fnOk P f = true)
    (k : callD P f (x :: args) H Q K) : callI P (.iface t x) name args H Q K :=
  ⟨t, x, f, x, rfl, fun K' Q' h => by
    have : P.types.size + Made.depth = (P.types.size + 99) + 1 := rfl
    rw [this]
    exact methodH_ptr hm hp _ H K' Q' h, hf, k⟩
theorem mthOk_get {t : TypeId} {name : String} {f : FuncId} {pr : Bool} (hm : mthOk P t name f pr = true) : ∃ i m, P.info? t = some i ∧ i.methods.find? (fun m => m.name == name) = some m ∧ m.path = #[] ∧ m.func = some (f, pr) := by
  unfold mthOk at hm
  split at hm
  · rename_i i hi
    split at hm
    · rename_i m hf
      split at hm
      · rename_i g b hg
        simp only [Bool.and_eq_true, beq_iff_eq] at hm
        obtain ⟨⟨h1, rfl⟩, rfl⟩ := hm
        exact ⟨i, m, hi, hf, by simpa using h1, hg⟩
      · cases hm
    · cases hm
  · cases hm
/-- A method of a value, called through a pointer: the value is read. -/
theorem callI_at {t e : TypeId} {a : Addr} {name : String} {f : FuncId} {args : List Value} {Q : List PanicEntry → Heap → Prop} {K : Value → Heap → Prop} (hm : mthOk P t name f false = true) (hp : P.underlying t = some (.pointer e)) (hf : fnOk P f = true)
    (k : ldD P e a H fun v => callD P f (v :: args) H Q K) : callI P (.iface t (.pointer (some a))) name args H Q K := by
  obtain ⟨v, hv, k⟩ := ldD.spec k
  refine ⟨t, _, f, v, rfl, fun K' Q' h => ?_, hf, k⟩
  have e1 : P.types.size + Made.depth = (P.types.size + 99) + 1 := rfl
  rw [e1]
  obtain ⟨i, m, hi, hfd, hpath, hg⟩ := mthOk_get hm
  rw [method, SemH_bind, SemH_typeInfo hi]
  simp only [hfd, hpath, hg]
  rw [SemH_bind, follow, SemH_pure, SemH_bind]
  unfold receiverAt
  rw [SemH_bind, SemH_underlying hp]
  show SemH P (Builtin.ssaWrapNilChk_ #[t] t #[.pointer (some a), strVal "", strVal ((name.splitOn ".").getLastD name)] >>= fun ptr => asAddr ptr >>= fun b => loadVar e b) H _ _
  rw [SemH_bind]
  show SemH P (pure (.pointer (some a)) : Sem Value) H _ _
  rw [SemH_pure, SemH_bind]
  show SemH P (pure a : Sem Addr) H _ _
  rw [SemH_pure]
  exact semH_of_read hv h
/-- A method of a value. -/
theorem callI_v {t : TypeId} {d : TypeDesc} {x : Value} {name : String} {f : FuncId} {args : List Value} {Q : List PanicEntry → Heap → Prop} {K : Value → Heap → Prop} (hm : mthOk P t name f false = true) (hp : P.underlying t = some d) (hd : ∀ e, d ≠ .pointer e) (hf : fnOk P f = true)
    (k : callD P f (x :: args) H Q K) : callI P (.iface t x) name args H Q K := by
  refine ⟨t, x, f, x, rfl, fun K' Q' h => ?_, hf, k⟩
  have e1 : P.types.size + Made.depth = (P.types.size + 99) + 1 := rfl
  rw [e1]
  obtain ⟨i, m, hi, hfd, hpath, hg⟩ := mthOk_get hm
  rw [method, SemH_bind, SemH_typeInfo hi]
  simp only [hfd, hpath, hg]
  rw [SemH_bind, follow, SemH_pure, SemH_bind]
  unfold receiverAt
  rw [SemH_bind, SemH_underlying hp]
  cases d <;> first | (exact (hd _ rfl).elim) | exact h
end
/-! ### More on footprints -/
section
variable {F H H1 : Heap} {S S' : Nat → Prop} {l l' : List Bk}
/-- Listed blocks have turned to what l' says. -/
theorem St.renew (L : St F S H l) (h : Chg S' H H1) (hs : ∀ i, S' i → S i ∨ F.size ≤ i) (hl : l'.map (·.1) = l.map (·.1)) (hl' : ∀ (i r : Nat) (o : Obj), l'[i]? = some (r, o) → H1[r]? = some o) : St F S H1 l' := by
  have key : ∀ (i : Nat) (x : Bk), l'[i]? = some x → ∃ y, l[i]? = some y ∧ y.1 = x.1 := by
    intro i x hi
    have := congrArg (fun m => m[i]?) hl
    simp only [List.getElem?_map, hi, Option.map_some] at this
    cases hy : l[i]? with
    | none => rw [hy] at this; cases this
    | some y => rw [hy] at this; simp at this; exact ⟨y, rfl, this.symm⟩
  refine ⟨⟨Nat.le_trans L.chg.size h.size, fun i hi hn => (h.same i (Nat.lt_of_lt_of_le hi L.chg.size) (fun hh => by rcases hs i hh with h1 | h1 <;> first | exact hn h1 | omega)).trans (L.chg.same i hi hn)⟩, fun i r o hi => ?_, fun i j x y hi hj he => ?_⟩
  · obtain ⟨y, hy, he⟩ := key i _ hi
    refine ⟨?_, hl' i r o hi⟩
    have := (L.own i y.1 y.2 hy).1
    rwa [he] at this
  · obtain ⟨x', hx, ex⟩ := key i x hi
    obtain ⟨y', hy, ey⟩ := key j y hj
    exact L.apart i j x' y' hx hy (by rw [ex, ey, he])
variable {b b' : List Bk} {E : TypeId} {z : Nat} {p : Option Addr} {n c : Nat} {vs : List Value}
theorem Grow.renew (g : Grow F S H b E z p n c vs) (h : Chg S' H H1) (hs : ∀ i, S' i → S i ∨ F.size ≤ i) (hp : ∀ i, S' i → p ≠ some ⟨i, 0, none⟩) (hl : b'.map (·.1) = b.map (·.1)) (hl' : ∀ (i r : Nat) (o : Obj), b'[i]? = some (r, o) → H1[r]? = some o) : Grow F S H1 b' E z p n c vs := by
  cases g with
  | nil L => exact .nil (L.renew h hs hl hl')
  | mk L h1 h2 h3 =>
    rename_i r sp
    refine .mk (L.renew h hs (by simp [hl]) ?_) h1 h2 h3
    intro i r' o hi
    cases i with
    | zero =>
      simp at hi
      obtain ⟨rfl, rfl⟩ := hi
      exact h.block (fun hh => hp _ hh rfl) (L.own 0 _ _ rfl).2
    | succ i => exact hl' i r' o (by simpa using hi)
theorem Grow.push (g : Grow F S H b E z p n c vs) (o : Obj) : Grow F S (H.push o) ((H.size, o) :: b) E z p n c vs := by
  cases g with
  | nil L => exact .nil (L.push o)
  | mk L h1 h2 h3 =>
    rename_i r sp
    have L2 := L.push o
    refine .mk ⟨L2.chg, ?_, ?_⟩ h1 h2 h3
    · intro i r' ob hi
      match i with
      | 0 => exact L2.own 1 r' ob (by simpa using hi)
      | 1 => exact L2.own 0 r' ob (by simpa using hi)
      | i + 2 => exact L2.own (i + 2) r' ob (by simpa using hi)
    · intro i j x y hi hj he
      have sw : ∀ (i : Nat) (x : Bk), ((r, Obj.cells ⟨vs ++ sp⟩ E) :: (H.size, o) :: b)[i]? = some x → ∃ k, ((H.size, o) :: (r, Obj.cells ⟨vs ++ sp⟩ E) :: b)[k]? = some x ∧ (match i with | 0 => k = 1 | 1 => k = 0 | i + 2 => k = i + 2) := by
        intro i x hi
        match i with
        | 0 => exact ⟨1, by simpa using hi, rfl⟩
        | 1 => exact ⟨0, by simpa using hi, rfl⟩
        | i + 2 => exact ⟨i + 2, by simpa using hi, rfl⟩
      obtain ⟨a, ha, ea⟩ := sw i x hi
      obtain ⟨d, hd, ed⟩ := sw j y hj
      have had := L2.apart a d x y ha hd he
      subst had
      match i, j with
      | 0, 0 => rfl
      | 0, 1 => simp at ea ed; omega
      | 0, j + 2 => simp at ea ed; omega
      | 1, 0 => simp at ea ed; omega
      | 1, 1 => rfl
      | 1, j + 2 => simp at ea ed; omega
      | i + 2, 0 => simp at ea ed; omega
      | i + 2, 1 => simp at ea ed; omega
      | i + 2, j + 2 => simp at ea ed; omega
theorem Grow.new (g : Grow F S H b E z p n c vs) {o : Obj} {K : Nat → Heap → Prop} (k : ∀ r H1, r = H.size → ExtH H H1 → Grow F S H1 ((r, o) :: b) E z p n c vs → K r H1) : newD H o K := k _ _ rfl (ExtH.push _ _) (g.push o)
end
end Go.Den
namespace Go.Den
open Go
section
variable {F H H1 : Heap} {S : Nat → Prop} {b : List Bk} {E : TypeId} {z : Nat} {p : Option Addr} {n c : Nat} {vs : List Value}
/-- A listed block beside the growing slice turns. -/
theorem Grow.upd (g : Grow F S H b E z p n c vs) (i : Nat) {r : Nat} {o o' : Obj} (hi : b[i]? = some (r, o)) (u : Upd r o' H H1) : Grow F S H1 (b.set i (r, o')) E z p n c vs := by
  cases g with
  | nil L => exact .nil (L.upd i hi u)
  | mk L h1 h2 h3 =>
    refine .mk ?_ h1 h2 h3
    have := L.upd (i + 1) (by simpa using hi) u
    simpa using this
theorem Grow.st1 (g : Grow F S H b E z p n c vs) (i : Nat) {r : Nat} {cs : List Value} {T : TypeId} {j : Nat} {u v : Value} {K : Heap → Prop} (hi : b[i]? = some (r, .cells ⟨cs⟩ T)) (hj : cs[j]? = some u) (hv : isCell v = true)
    (k : ∀ H1, Grow F S H1 (b.set i (r, .cells ⟨cs.set j v⟩ T)) E z p n c vs → K H1) : Den.st1 H ⟨r, j, none⟩ v K :=
  st1_of (g.st.own i r _ hi).2 hj hv fun H1 u => k H1 (g.upd i hi u)
theorem Grow.stCs (i : Nat) {r : Nat} {T : TypeId} {o : Nat} {K : Heap → Prop} : ∀ (us : List Value) (t : Nat) (H : Heap) (b : List Bk) (cs : List Value), Grow F S H b E z p n c vs → b[i]? = some (r, .cells ⟨cs⟩ T) → (∀ v ∈ us, isCell v = true) → o + t + us.length ≤ cs.length →
    (∀ H1, Grow F S H1 (b.set i (r, .cells ⟨cs.take (o + t) ++ us ++ cs.drop (o + t + us.length)⟩ T)) E z p n c vs → K H1) → Den.stCs ⟨r, o, none⟩ H t us K := by
  intro us
  induction us with
  | nil =>
    intro t H b cs g hi _ hl k
    have h := k H
    simp only [List.append_nil, List.length_nil, Nat.add_zero, List.take_append_drop] at h
    refine h ?_
    have : b.set i (r, .cells ⟨cs⟩ T) = b := by
      refine List.ext_getElem? fun j => ?_
      rw [List.getElem?_set]
      split
      · rename_i hij
        subst hij
        split
        · exact hi.symm
        · rename_i h; rw [List.getElem?_eq_none (by omega)] at hi; cases hi
      · rfl
    rw [this]; exact g
  | cons v us ih =>
    intro t H b cs g hi hc hl k
    simp only [Den.stCs]
    have hlt : o + t < cs.length := by simp at hl; omega
    rw [add_mk]
    refine g.st1 i hi (List.getElem?_eq_getElem hlt) (hc v (List.mem_cons_self ..)) ?_
    intro H1 g1
    have hil : i < b.length := by
      rcases Nat.lt_or_ge i b.length with h | h
      · exact h
      · rw [List.getElem?_eq_none h] at hi; cases hi
    refine ih (t + 1) H1 _ (cs.set (o + t) v) g1 (by simp [hil]) (fun v hv => hc v (List.mem_cons_of_mem _ hv)) (by simp at hl ⊢; omega) ?_
    intro H2 g2
    refine k H2 ?_
    have e : (cs.set (o + t) v).take (o + (t + 1)) ++ us ++ (cs.set (o + t) v).drop (o + (t + 1) + us.length) = cs.take (o + t) ++ (v :: us) ++ cs.drop (o + t + (v :: us).length) := by
      rw [show o + (t + 1) = o + t + 1 from by omega, List.take_add_one, List.take_set_of_le (by omega)]
      simp only [List.getElem?_set_self hlt, Option.toList_some]
      rw [List.drop_set_of_lt (by omega)]
      simp only [List.append_assoc, List.singleton_append, List.cons_append, List.nil_append, List.length_cons, List.append_cancel_left_eq]
      rw [show o + t + 1 + us.length = o + t + (us.length + 1) from by omega]
    rw [e] at g2
    rwa [List.set_set] at g2
end
theorem slP_zero {p : Option Addr} {m z : Nat} : slP p 0 m z = p := by
  unfold slP
  split
  · rfl
  · cases p with
    | none => rfl
    | some a => simp [add_zero']
end Go.Den
namespace Go.Den
open Go
section
variable {F H H1 : Heap} {S T : Nat → Prop} {b b' : List Bk} {E : TypeId} {z : Nat} {p p' : Option Addr} {n n' c c' : Nat} {vs vs' : List Value}
theorem St.rebase {l : List Bk} (L : St F S H l) (T : Nat → Prop) (h : ∀ (i r : Nat) (o : Obj), l[i]? = some (r, o) → T r) : St H T H l := ⟨Chg.refl, fun i r o hi => ⟨.inl (h i r o hi), (L.own i r o hi).2⟩, L.apart⟩
theorem St.unbase {l l' : List Bk} (L : St F S H l) (L' : St H T H1 l') (hT : ∀ i, T i → S i ∨ F.size ≤ i) : St F S H1 l' := by
  refine ⟨⟨Nat.le_trans L.chg.size L'.chg.size, fun i hi hn => (L'.chg.same i (Nat.lt_of_lt_of_le hi L.chg.size) (fun h => by rcases hT i h with h | h <;> first | exact hn h | omega)).trans (L.chg.same i hi hn)⟩, fun i r o hi => ?_, L'.apart⟩
  obtain ⟨h1, h2⟩ := L'.own i r o hi
  refine ⟨?_, h2⟩
  rcases h1 with h1 | h1
  · exact hT r h1
  · exact .inr (Nat.le_trans L.chg.size h1)
theorem Grow.rebase (g : Grow F S H b E z p n c vs) (T : Nat → Prop) (hp : ∀ i, p = some ⟨i, 0, none⟩ → T i) (h : ∀ (i r : Nat) (o : Obj), b[i]? = some (r, o) → T r) : Grow H T H b E z p n c vs := by
  cases g with
  | nil L => exact .nil (L.rebase T h)
  | mk L h1 h2 h3 =>
    refine .mk (L.rebase T ?_) h1 h2 h3
    intro i r o hi
    cases i with
    | zero => simp at hi; exact hp r (by rw [hi.1])
    | succ i => exact h i r o (by simpa using hi)
theorem Grow.unbase (g : Grow F S H b E z p n c vs) (g' : Grow H T H1 b' E z p' n' c' vs') (hT : ∀ i, T i → S i ∨ F.size ≤ i) : Grow F S H1 b' E z p' n' c' vs' := by
  cases g' with
  | nil L => exact .nil (g.st.unbase L hT)
  | mk L h1 h2 h3 => exact .mk (g.st.unbase L hT) h1 h2 h3
theorem Grow.apart (g : Grow F S H b E z p n c vs) {r : Nat} (hp : p = some ⟨r, 0, none⟩) {i r' : Nat} {o : Obj} (hi : b[i]? = some (r', o)) : r' ≠ r := by
  cases g with
  | nil L => cases hp
  | mk L h1 h2 h3 =>
    injection hp with hp
    injection hp with hp
    subst hp
    exact L.ne (i := i + 1) (j := 0) (by simpa using hi) rfl (by omega)
theorem Grow.tail {x : Bk} (g : Grow F S H (x :: b) E z p n c vs) : Grow F S H b E z p n c vs := by
  cases g with
  | nil L => exact .nil L.tail
  | mk L h1 h2 h3 =>
    rename_i r sp
    have sw : ∀ (i : Nat) (y : Bk), ((r, Obj.cells ⟨vs ++ sp⟩ E) :: b)[i]? = some y → ((r, Obj.cells ⟨vs ++ sp⟩ E) :: x :: b)[if i = 0 then 0 else i + 1]? = some y := by
      intro i y hi
      cases i with
      | zero => simpa using hi
      | succ i => simpa using hi
    refine .mk ⟨L.chg, fun i r o hi => L.own _ r o (sw i _ hi), fun i j y w hi hj he => ?_⟩ h1 h2 h3
    have := L.apart _ _ y w (sw i y hi) (sw j w hj) he
    split at this <;> split at this <;> omega
/-- What the slice's block, and the listed ones, come from. -/
theorem Grow.all (g : Grow F S H b E z p n c vs) : (∀ i, p = some ⟨i, 0, none⟩ → S i ∨ F.size ≤ i) ∧ ∀ (i r : Nat) (o : Obj), b[i]? = some (r, o) → S r ∨ F.size ≤ r :=
  ⟨fun i h => g.from_ h, fun i r o hi => (g.st.own i r o hi).1⟩
end
end Go.Den
namespace Go.Den
open Go
/-- Two slices that grow side by side: the one outlives the other's growth. -/
theorem Grow.beside {F H H1 : Heap} {S : Nat → Prop} {E : TypeId} {z : Nat} {p k k' : Option Addr} {n c : Nat} {vs : List Value} (g : Grow F S H [] E z p n c vs) (ch : Chg S F H1) (G : Grown k k' H H1) (hne : ∀ i, p = some ⟨i, 0, none⟩ → k ≠ some ⟨i, 0, none⟩) :
    Grow F S H1 [] E z p n c vs ∧ ∀ i, p = some ⟨i, 0, none⟩ → k' ≠ some ⟨i, 0, none⟩ := by
  cases g with
  | nil L => exact ⟨.nil ⟨ch, by simp, by simp⟩, fun i h => by cases h⟩
  | mk L h1 h2 h3 =>
    rename_i r sp
    have hr := (L.own 0 _ _ rfl)
    have sm := G.same r (block_lt hr.2) (hne r rfl)
    refine ⟨.mk ⟨ch, fun i r' o hi => ?_, fun i j x y hi hj _ => ?_⟩ h1 h2 h3, fun i h => ?_⟩
    · cases i with
      | zero => simp at hi; obtain ⟨rfl, rfl⟩ := hi; exact ⟨hr.1, sm.1.trans hr.2⟩
      | succ i => simp at hi
    · cases i with
      | zero => cases j with
        | zero => rfl
        | succ j => simp at hj
      | succ i => simp at hi
    · injection h with h; injection h with h; subst h; exact sm.2
end Go.Den

/- What came in, read: the shapes of its cells, out of the row's own reading. -/
set_option linter.unusedVariables false
set_option linter.unusedSimpArgs false
namespace Go.Den
open Go
/-- n cells lie from a on. -/
def cellsOn (H : Heap) (a : Addr) (n : Nat) (es : List Value) : Prop := es.length = n ∧ ∀ j v, es[j]? = some v → hcell H (a.add j) = some v
def Rd (P : Program) (H : Heap) : Nat → TypeId → List Value → Prop
  | 0, _, _ => False
  | f + 1, t, cs => match P.underlying t with
    | some .bool => ∃ b, cs = [.bool b]
    | some (.int k) => ∃ n, cs = [.int k n] ∧ k.min ≤ n ∧ n ≤ k.max
    | some .string => ∃ s, cs = [.string s] ∧ s.size ≤ maxLen
    | some (.slice e) => cs = [.slice none 0 0] ∨ ∃ a len cap, cs = [.slice (some a) len cap] ∧ len ≤ cap ∧ cap ≤ maxLen ∧ ∀ i, i < len → ∃ es, cellsOn H (a.add (i * P.cellsOf e)) (P.cellsOf e) es ∧ Rd P H f e es
    | some (.struct fs) => cs.length = P.cellsOf t ∧ ∀ x ∈ fs.toList, Rd P H f x.type ((cs.drop x.offset).take (P.cellsOf x.type))
    | some (.pointer e) => cs = [.pointer none] ∨ ∃ a, cs = [.pointer (some a)] ∧ ∃ es, cellsOn H a (P.cellsOf e) es ∧ Rd P H f e es
    | _ => True
theorem mapM_range {α : Type} {f : Nat → Option α} : ∀ {n : Nat} {xs : List α}, (List.range n).mapM f = some xs → xs.length = n ∧ ∀ i, i < n → ∃ x, f i = some x ∧ xs[i]? = some x := by
  have key : ∀ (l : List Nat) (xs : List α), l.mapM f = some xs → xs.length = l.length ∧ ∀ (j i : Nat), l[j]? = some i → ∃ x, f i = some x ∧ xs[j]? = some x := by
    intro l
    induction l with
    | nil => intro xs h; simp at h; subst h; simp
    | cons a l ih =>
      intro xs h
      simp only [List.mapM_cons, Option.bind_eq_bind, Option.pure_def] at h
      cases hf : f a with
      | none => simp [hf] at h
      | some y =>
        cases hr : l.mapM f with
        | none => simp [hf, hr] at h
        | some ys =>
          simp [hf, hr] at h
          subst h
          obtain ⟨h1, h2⟩ := ih ys hr
          refine ⟨by simp [h1], fun j i hj => ?_⟩
          cases j with
          | zero => simp at hj; subst hj; exact ⟨y, hf, rfl⟩
          | succ j => simp at hj; obtain ⟨x, h3, h4⟩ := h2 j i hj; exact ⟨x, h3, by simpa using h4⟩
  intro n xs h
  obtain ⟨h1, h2⟩ := key _ _ h
  refine ⟨by simpa using h1, fun i hi => ?_⟩
  exact h2 i i (by simp [hi])
theorem mapM_mem {α β : Type} {f : α → Option β} : ∀ {l : List α} {xs : List β}, l.mapM f = some xs → ∀ x ∈ l, ∃ y, f x = some y := by
  intro l
  induction l with
  | nil => intro xs _ x hx; cases hx
  | cons a l ih =>
    intro xs h x hx
    simp only [List.mapM_cons, Option.bind_eq_bind, Option.pure_def] at h
    cases hf : f a with
    | none => simp [hf] at h
    | some y =>
      cases hr : l.mapM f with
      | none => simp [hf, hr] at h
      | some ys =>
        rcases List.mem_cons.1 hx with rfl | hx
        · exact ⟨y, hf⟩
        · exact ih hr x hx
theorem cells?_on {w : World} {b : Nat} {a : Addr} {n : Nat} {es : List Value} (h : w.cells? b a n = some es) : cellsOn w.heap a n es := by
  unfold World.cells? at h
  split at h
  · obtain ⟨h1, h2⟩ := mapM_range h
    refine ⟨h1, fun j v hj => ?_⟩
    have hlt : j < n := by
      rcases Nat.lt_or_ge j n with h | h
      · exact h
      · rw [List.getElem?_eq_none (by omega)] at hj; cases hj
    obtain ⟨x, h3, h4⟩ := h2 j hlt
    rw [h4] at hj
    injection hj with hj
    subst hj
    exact h3
  · cases h
theorem rd_of_trod {K : Type} {enc : TypeId × Value → K} {P : Program} {w : World} {sp : Nat → Bool} : ∀ {f : Nat} {t : TypeId} {cs : List Value} {r : DataW K × List MemPlace}, DataW.trod enc P w 0 sp true f t cs = some r → Rd P w.heap f t cs := by
  intro f
  induction f with
  | zero => intro t cs r h; cases h
  | succ f ih =>
    intro t cs r h
    unfold DataW.trod at h
    unfold Rd
    split at h
    all_goals (first | (rename_i hu _; simp only [hu]) | (rename_i hu; simp only [hu]) | skip)
    all_goals try trivial
    · exact ⟨_, rfl⟩
    · rename_i k k' n
      split at h
      · rename_i hc
        obtain ⟨rfl, hw⟩ := hc
        simp [Lit.wf] at hw
        exact ⟨n, rfl, hw.1, hw.2⟩
      · cases h
    · split at h
      · rename_i hs; exact ⟨_, rfl, hs⟩
      · cases h
    · exact .inl trivial
    · rename_i e a
      cases hc : w.cells? 0 a (P.cellsOf e) with
      | none => simp [hc] at h
      | some es =>
        simp [hc] at h
        obtain ⟨x, y, h1, _⟩ := h
        exact .inr ⟨a, rfl, es, cells?_on hc, ih h1⟩
    · exact .inl trivial
    · rename_i e a len cap
      simp only at h
      split at h
      · rename_i hb
        cases hm : (List.range len).mapM (fun i => (w.cells? 0 (a.add (i * P.cellsOf e)) (P.cellsOf e)).bind (DataW.trod enc P w 0 sp true f e)) with
        | none => simp [hm] at h
        | some els =>
          obtain ⟨_, h2⟩ := mapM_range hm
          refine .inr ⟨a, len, cap, rfl, hb.2.1, hb.2.2, fun i hi => ?_⟩
          obtain ⟨x, h3, _⟩ := h2 i hi
          cases hc : w.cells? 0 (a.add (i * P.cellsOf e)) (P.cellsOf e) with
          | none => simp [hc] at h3
          | some es => simp [hc] at h3; exact ⟨es, cells?_on hc, ih h3⟩
      · cases h
    · rename_i cs _ _ fs
      split at h
      · rename_i hl
        refine ⟨hl, fun x hx => ?_⟩
        cases hm : fs.toList.mapM (fun f' => DataW.trod enc P w 0 sp true f f'.type ((cs.drop f'.offset).take (P.cellsOf f'.type))) with
        | none => simp [hm] at h
        | some els =>
          obtain ⟨y, hy⟩ := mapM_mem hm x hx
          exact ih hy
      · cases h
end Go.Den

/- What came in, read field by field, and rows of it as lists. -/
set_option linter.unusedVariables false
set_option linter.unusedSimpArgs false
namespace Go.Den
open Go
def structB (P : Program) (t : TypeId) : Bool := match P.underlying t with | some (.struct _) => true | _ => false
def fieldsOf (P : Program) (t : TypeId) : List (TypeId × Nat) := match P.underlying t with | some (.struct fs) => fs.toList.map fun x => (x.type, x.offset) | _ => []
def partsOk {P : Program} (R : TypeId → List Value → Prop) (cs : List Value) : List (TypeId × Nat) → Prop
  | [] => True
  | p :: r => R p.1 ((cs.drop p.2).take (P.cellsOf p.1)) ∧ partsOk (P := P) R cs r
section
variable {P : Program} {H : Heap} {f : Nat} {t e : TypeId} {cs : List Value}
theorem rd_pos (h : Rd P H f t cs) : ∃ g, f = g + 1 := by cases f with | zero => exact h.elim | succ g => exact ⟨g, rfl⟩
theorem rd_struct (h : Rd P H f t cs) {k : Nat} {fs : List (TypeId × Nat)} (hs : structB P t = true) (hk : P.cellsOf t = k) (hf : fieldsOf P t = fs) : ∃ g, cs.length = k ∧ partsOk (P := P) (Rd P H g) cs fs := by
  obtain ⟨g, rfl⟩ := rd_pos h
  unfold structB at hs
  unfold fieldsOf at hf
  unfold Rd at h
  split at hs
  · rename_i xs hu
    rw [hu] at h hf
    obtain ⟨h1, h2⟩ := h
    refine ⟨g, h1.trans hk, ?_⟩
    dsimp only at hf
    subst hf
    have key : ∀ (l : List Field), (∀ x ∈ l, Rd P H g x.type ((cs.drop x.offset).take (P.cellsOf x.type))) → partsOk (P := P) (Rd P H g) cs (l.map fun x => (x.type, x.offset)) := by
      intro l
      induction l with
      | nil => intro _; trivial
      | cons x l ih => intro h; exact ⟨h x (List.mem_cons_self ..), ih fun y hy => h y (List.mem_cons_of_mem _ hy)⟩
    exact key _ h2
  · cases hs
theorem rd_int (h : Rd P H f t cs) {k : IntKind} (hu : P.underlying t = some (.int k)) : ∃ n, cs = [.int k n] ∧ k.min ≤ n ∧ n ≤ k.max := by
  obtain ⟨g, rfl⟩ := rd_pos h
  unfold Rd at h; rw [hu] at h; exact h
theorem rd_bool (h : Rd P H f t cs) (hu : P.underlying t = some .bool) : ∃ b, cs = [.bool b] := by
  obtain ⟨g, rfl⟩ := rd_pos h
  unfold Rd at h; rw [hu] at h; exact h
theorem rd_str (h : Rd P H f t cs) (hu : P.underlying t = some .string) : ∃ s, cs = [.string s] ∧ s.size ≤ maxLen := by
  obtain ⟨g, rfl⟩ := rd_pos h
  unfold Rd at h; rw [hu] at h; exact h
/-- A slice that came in, as a list of records. -/
theorem rd_slice {α : Type} {fl : α → List Value} {z : Nat} (h : Rd P H f t cs) (hu : P.underlying t = some (.slice e)) (hz : P.cellsOf e = z) {good : α → Prop}
    (hd : ∀ g es, Rd P H g e es → ∃ x, es = fl x ∧ good x) : ∃ p n c l, cs = [.slice p n c] ∧ n = l.length ∧ n ≤ c ∧ c ≤ maxLen ∧ RowsAt fl z H p l ∧ ∀ x ∈ l, good x := by
  obtain ⟨g, rfl⟩ := rd_pos h
  unfold Rd at h
  rw [hu] at h
  rcases h with h | ⟨a, n, c, h, h1, h2, h3⟩
  · exact ⟨none, 0, 0, [], h, rfl, Nat.le_refl _, Nat.zero_le _, .inl rfl, by simp⟩
  · have key : ∀ m, m ≤ n → ∃ l : List α, l.length = m ∧ (∀ x ∈ l, good x) ∧ ∀ (i : Nat) (x : α), l[i]? = some x → ∀ (j : Nat) (v : Value), (fl x)[j]? = some v → hcell H ((a.add (i * z)).add j) = some v := by
      intro m
      induction m with
      | zero => intro _; exact ⟨[], rfl, by simp, by simp⟩
      | succ m ih =>
        intro hm
        obtain ⟨l, k1, k2, k3⟩ := ih (by omega)
        obtain ⟨es, k4, k5⟩ := h3 m (by omega)
        obtain ⟨x, rfl, gx⟩ := hd _ _ k5
        refine ⟨l ++ [x], by simp [k1], ?_, ?_⟩
        · intro y hy
          rcases List.mem_append.1 hy with hy | hy
          · exact k2 y hy
          · simp at hy; subst hy; exact gx
        · intro i y hi j v hj
          rcases Nat.lt_trichotomy i l.length with hl | hl | hl
          · rw [List.getElem?_append_left hl] at hi
            exact k3 i y hi j v hj
          · subst hl
            simp at hi
            subst hi
            have := k4.2 j v hj
            rw [hz] at this
            rwa [k1]
          · rw [List.getElem?_eq_none (by simp; omega)] at hi; cases hi
    obtain ⟨l, k1, k2, k3⟩ := key n (Nat.le_refl _)
    exact ⟨some a, n, c, l, h, k1.symm, h1, h2, .inr ⟨a, rfl, k3⟩, k2⟩
end
theorem cons_of {α : Type} {cs : List α} {n : Nat} (h : cs.length = n + 1) : ∃ a r, cs = a :: r ∧ r.length = n := by
  cases cs with
  | nil => cases h
  | cons a r => exact ⟨a, r, rfl, by simpa using h⟩
end Go.Den

/- Memory in pieces that lie apart: what a call names; what it does not name stays. -/
set_option linter.unusedVariables false
set_option linter.unusedSimpArgs false
namespace Go.Den
open Go

/-- A part of a heap. -/
abbrev PH := Nat → Option Obj
/-- What is said of a part of a heap. -/
def HP := PH → Prop
def PH.of (H : Heap) : PH := fun b => H[b]?
def PH.sub (h k : PH) : Prop := ∀ b o, h b = some o → k b = some o
def PH.minus (k h : PH) : PH := fun b => match h b with | some _ => none | none => k b
def PH.join (h k : PH) : PH := fun b => match h b with | some o => some o | none => k b
/-- The part k has pieces, apart from each other, of which the list's words hold. -/
def SatP : PH → List HP → Prop
  | _, [] => True
  | k, c :: l => ∃ h, c h ∧ PH.sub h k ∧ SatP (PH.minus k h) l
section
variable {h g k k' : PH} {c d : HP} {l m t : List HP}
theorem PH.sub.refl : PH.sub h h := fun _ _ x => x
theorem PH.sub.trans (a : PH.sub g h) (b : PH.sub h k) : PH.sub g k := fun i o x => b i o (a i o x)
theorem PH.minus_sub : PH.sub (PH.minus k h) k := by
  intro b o x
  unfold PH.minus at x
  split at x
  · cases x
  · exact x
theorem PH.minus_none {b : Nat} (x : h b = none) : PH.minus k h b = k b := by unfold PH.minus; rw [x]
theorem PH.minus_some {b : Nat} {o : Obj} (x : h b = some o) : PH.minus k h b = none := by unfold PH.minus; rw [x]
theorem PH.of_minus {b : Nat} {o : Obj} (x : PH.minus k h b = some o) : h b = none ∧ k b = some o := by
  unfold PH.minus at x
  split at x
  · cases x
  · rename_i e; exact ⟨e, x⟩
theorem PH.minus_mono (a : PH.sub k k') : PH.sub (PH.minus k h) (PH.minus k' h) := by
  intro b o x
  obtain ⟨x1, x2⟩ := PH.of_minus x
  rw [PH.minus_none x1]
  exact a b o x2
theorem SatP.mono : ∀ {l : List HP} {k k' : PH}, PH.sub k k' → SatP k l → SatP k' l
  | [], _, _, _, _ => trivial
  | _ :: _, _, _, a, ⟨h, h1, h2, h3⟩ => ⟨h, h1, h2.trans a, SatP.mono (PH.minus_mono a) h3⟩
theorem SatP.tail (a : SatP k (c :: l)) : SatP k l := by
  obtain ⟨h, _, _, x⟩ := a
  exact x.mono PH.minus_sub
theorem SatP.swap (a : SatP k (c :: d :: l)) : SatP k (d :: c :: l) := by
  obtain ⟨h, h1, h2, g, g1, g2, x⟩ := a
  refine ⟨g, g1, g2.trans PH.minus_sub, h, h1, ?_, x.mono ?_⟩
  · intro b o e
    have : g b = none := by
      cases hg : g b with
      | none => rfl
      | some y => have := g2 b y hg; rw [PH.minus_some e] at this; cases this
    rw [PH.minus_none this]
    exact h2 b o e
  · intro b o e
    obtain ⟨e1, e2⟩ := PH.of_minus e
    obtain ⟨e3, e4⟩ := PH.of_minus e2
    rw [PH.minus_none e3, PH.minus_none e1]
    exact e4
theorem SatP.cons_mono (f : ∀ k, SatP k l → SatP k m) (a : SatP k (c :: l)) : SatP k (c :: m) := by
  obtain ⟨h, h1, h2, x⟩ := a
  exact ⟨h, h1, h2, f _ x⟩
theorem SatP.perm (p : l.Perm m) : ∀ {k : PH}, SatP k l → SatP k m := by
  induction p with
  | nil => exact id
  | cons x _ ih => intro k a; exact a.cons_mono fun _ => ih
  | swap x y l => intro k a; exact a.swap
  | trans _ _ i1 i2 => intro k a; exact i2 (i1 a)
/-- Pieces together make one piece. -/
def star (l : List HP) : HP := fun h => SatP h l
def lift (φ : Prop) : HP := fun _ => φ
def ex {α : Type} (f : α → HP) : HP := fun h => ∃ a, f a h
def pt (r : Nat) (o : Obj) : HP := fun h => h r = some o
def old (H0 : Heap) : HP := fun h => ∀ b o, H0[b]? = some o → h b = some o
theorem minus_minus_sub (a : PH.sub g h) : PH.sub (PH.minus k h) (PH.minus (PH.minus k g) (PH.minus h g)) := by
  intro b o e
  obtain ⟨e1, e2⟩ := PH.of_minus e
  have e3 : g b = none := by
    cases hg : g b with
    | none => rfl
    | some y => have := a b y hg; rw [e1] at this; cases this
  have e4 : PH.minus h g b = none := by rw [PH.minus_none e3]; exact e1
  rw [PH.minus_none e4, PH.minus_none e3]
  exact e2
theorem star_out : ∀ {l : List HP} {h k : PH}, SatP h l → PH.sub h k → SatP (PH.minus k h) m → SatP k (l ++ m)
  | [], h, k, _, _, x => x.mono PH.minus_sub
  | c :: l, h, k, ⟨g, g1, g2, y⟩, hs, x => by
    refine ⟨g, g1, g2.trans hs, star_out (h := PH.minus h g) y ?_ (x.mono ?_)⟩
    · exact PH.minus_mono hs
    · exact minus_minus_sub g2
theorem star_in : ∀ {l : List HP} {k : PH}, SatP k (l ++ m) → ∃ h, SatP h l ∧ PH.sub h k ∧ SatP (PH.minus k h) m
  | [], k, x => ⟨fun _ => none, trivial, fun _ _ e => (by cases e), x⟩
  | c :: l, k, x => by
    obtain ⟨g, g1, g2, y⟩ := x
    obtain ⟨h, h1, h2, z⟩ := star_in (l := l) y
    refine ⟨PH.join g h, ⟨g, g1, ?_, h1.mono ?_⟩, ?_, z.mono ?_⟩
    · intro b o e; unfold PH.join; rw [e]
    · intro b o e
      have := h2 b o e
      obtain ⟨e1, e2⟩ := PH.of_minus this
      rw [PH.minus_none e1]
      unfold PH.join; rw [e1]; exact e
    · intro b o e
      unfold PH.join at e
      split at e
      · rename_i o' e'; cases e; exact g2 b _ e'
      · exact PH.minus_sub b o (h2 b o e)
    · intro b o e
      obtain ⟨e1, e2⟩ := PH.of_minus e
      obtain ⟨e3, e4⟩ := PH.of_minus e2
      have : PH.join g h b = none := by unfold PH.join; rw [e3]; exact e1
      rw [PH.minus_none this]
      exact e4
theorem SatP.star_iff : SatP k (star l :: m) ↔ SatP k (l ++ m) :=
  ⟨fun ⟨_, h1, h2, x⟩ => star_out h1 h2 x, fun x => let ⟨h, h1, h2, y⟩ := star_in x; ⟨h, h1, h2, y⟩⟩
theorem SatP.lift_iff {φ : Prop} : SatP k (lift φ :: l) ↔ φ ∧ SatP k l :=
  ⟨fun ⟨_, h1, _, x⟩ => ⟨h1, x.mono PH.minus_sub⟩, fun ⟨h1, x⟩ => ⟨fun _ => none, h1, fun _ _ e => (by cases e), x⟩⟩
theorem SatP.ex_iff {α : Type} {f : α → HP} : SatP k (ex f :: l) ↔ ∃ a, SatP k (f a :: l) :=
  ⟨fun ⟨h, ⟨a, h1⟩, h2, x⟩ => ⟨a, h, h1, h2, x⟩, fun ⟨a, h, h1, h2, x⟩ => ⟨h, ⟨a, h1⟩, h2, x⟩⟩
theorem SatP.mem : ∀ {l : List HP} {k : PH}, SatP k l → c ∈ l → ∃ h, c h ∧ PH.sub h k
  | _ :: _, _, ⟨h, h1, h2, x⟩, m => by
    rcases List.mem_cons.1 m with rfl | m
    · exact ⟨h, h1, h2⟩
    · obtain ⟨g, g1, g2⟩ := SatP.mem x m
      exact ⟨g, g1, g2.trans PH.minus_sub⟩
/-- What follows from pieces. -/
def Ent (l m : List HP) : Prop := ∀ k, SatP k l → SatP k m
/-- One piece of a list, and the others. -/
inductive Sel (c : HP) : List HP → List HP → Prop
  | here {l : List HP} : Sel c (c :: l) l
  | there {d : HP} {l r : List HP} : Sel c l r → Sel c (d :: l) (d :: r)
theorem Sel.perm {r : List HP} (s : Sel c l r) : l.Perm (c :: r) := by
  induction s with
  | here => exact .refl _
  | there _ ih => exact (ih.cons _).trans (.swap _ _ _)
theorem Ent.refl : Ent l l := fun _ a => a
theorem Ent.trans (a : Ent l m) (b : Ent m t) : Ent l t := fun k x => b k (a k x)
theorem Ent.nil : Ent l [] := fun _ _ => trivial
theorem Ent.drop (a : Ent l t) : Ent (c :: l) t := fun _ x => a _ x.tail
theorem Ent.cons (a : Ent l t) : Ent (c :: l) (c :: t) := fun _ x => x.cons_mono a
theorem Ent.pick {r : List HP} (s : Sel c l r) (a : Ent r t) : Ent l (c :: t) := fun _ x => (SatP.perm s.perm x).cons_mono a
theorem Ent.bring {r : List HP} (s : Sel c l r) : Ent l (c :: r) := fun _ x => SatP.perm s.perm x
theorem Ent.ex {α : Type} {f : α → HP} (a : α) (e : Ent l (f a :: t)) : Ent l (Den.ex f :: t) := fun k x => SatP.ex_iff.2 ⟨a, e k x⟩
theorem Ent.exL {α : Type} {f : α → HP} (e : ∀ a, Ent (f a :: l) t) : Ent (Den.ex f :: l) t := fun k x => by
  obtain ⟨a, x⟩ := SatP.ex_iff.1 x
  exact e a k x
theorem Ent.star (e : Ent l (m ++ t)) : Ent l (Den.star m :: t) := fun k x => SatP.star_iff.2 (e k x)
theorem Ent.starL (e : Ent (m ++ l) t) : Ent (Den.star m :: l) t := fun k x => e k (SatP.star_iff.1 x)
theorem Ent.lift {φ : Prop} (p : φ) (e : Ent l t) : Ent l (Den.lift φ :: t) := fun k x => SatP.lift_iff.2 ⟨p, e k x⟩
theorem Ent.liftL {φ : Prop} (e : φ → Ent l t) : Ent (Den.lift φ :: l) t := fun k x => let ⟨p, y⟩ := SatP.lift_iff.1 x; e p k y
theorem Ent.first {d : HP} (h : ∀ k, c k → d k) : Ent (c :: l) (d :: l) := fun k ⟨g, g1, g2, x⟩ => ⟨g, h g g1, g2, x⟩
theorem Ent.append {m' : List HP} (a : Ent l m) (b : Ent t m') : Ent (l ++ t) (m ++ m') := fun k x => by
  obtain ⟨h, h1, h2, y⟩ := star_in x
  exact star_out (a h h1) h2 (b _ y)
end
/-- The heap has these pieces. -/
class Sat (H : Heap) (l : outParam (List HP)) : Prop where
  out : SatP (PH.of H) l
section
variable {H H1 : Heap} {l m t : List HP} {c : HP}
theorem Sat.to (S : Sat H l) (e : Ent l m) : Sat H m := ⟨e _ S.out⟩
theorem Sat.ext (S : Sat H l) (e : ExtH H H1) : Sat H1 l := ⟨S.out.mono fun b o x => e.block_some x⟩
theorem Sat.start (H : Heap) : Sat H [old H] := ⟨PH.of H, fun b o x => x, PH.sub.refl, trivial⟩
theorem Sat.nil (H : Heap) : Sat H [] := ⟨trivial⟩
theorem Sat.push (S : Sat H l) (o : Obj) : Sat (H.push o) (pt H.size o :: l) := by
  refine ⟨fun b => if b = H.size then some o else none, if_pos rfl, ?_, S.out.mono ?_⟩
  · intro b x e
    dsimp only at e
    by_cases hb : b = H.size
    · subst hb; rw [if_pos rfl] at e; unfold PH.of; rw [Array.getElem?_push, if_pos rfl]; exact e
    · rw [if_neg hb] at e; cases e
  · intro b x e
    have hb : b < H.size := block_lt e
    rw [PH.minus_none (if_neg (by omega))]
    exact (ExtH.push H o).block_some e
theorem Sat.mem (S : Sat H l) (hm : c ∈ l) : ∃ h, c h ∧ PH.sub h (PH.of H) := S.out.mem hm
theorem Sat.at_ (S : Sat H l) {r : Nat} {o : Obj} (hm : pt r o ∈ l) : H[r]? = some o := by
  obtain ⟨h, h1, h2⟩ := S.mem hm
  exact h2 _ _ h1
theorem Sat.old (S : Sat H l) {H0 : Heap} (hm : Den.old H0 ∈ l) : ExtH H0 H := by
  obtain ⟨h, h1, h2⟩ := S.mem hm
  have key : ∀ b o, H0[b]? = some o → H[b]? = some o := fun b o e => h2 _ _ (h1 b o e)
  refine ⟨?_, fun b hb => ?_⟩
  · rcases Nat.lt_or_ge H.size H0.size with hlt | hge
    · have := block_lt (key H.size _ (Array.getElem?_eq_getElem hlt)); omega
    · exact hge
  · rw [key b _ (Array.getElem?_eq_getElem hb), Array.getElem?_eq_getElem hb]
/-- One block turns. -/
theorem SatP.upd {r : Nat} {o o' : Obj} {l : List HP} {H H1 : Heap} (S : SatP (PH.of H) (pt r o :: l)) (u : Upd r o' H H1) : SatP (PH.of H1) (pt r o' :: l) := by
  obtain ⟨h, h1, h2, x⟩ := S
  refine ⟨fun b => if b = r then some o' else none, if_pos rfl, ?_, x.mono ?_⟩
  · intro b y e
    dsimp only at e
    by_cases hb : b = r
    · subst hb; rw [if_pos rfl] at e; cases e; exact u.at_
    · rw [if_neg hb] at e; cases e
  · intro b y e
    obtain ⟨e1, e2⟩ := PH.of_minus e
    have hb : b ≠ r := by intro hh; subst hh; rw [show h b = some o from h1] at e1; cases e1
    rw [PH.minus_none (if_neg hb)]
    have hl : b < H.size := block_lt e2
    unfold PH.of at e2 ⊢
    rw [u.same b hl hb]; exact e2
theorem Sat.upd {r : Nat} {o o' : Obj} (S : Sat H (pt r o :: l)) (u : Upd r o' H H1) : Sat H1 (pt r o' :: l) := ⟨SatP.upd S.out u⟩
theorem Sat.ne (S : Sat H l) {r r' : Nat} {o o' : Obj} {x y : List HP} (h1 : Sel (pt r o) l x) (h2 : Sel (pt r' o') x y) : r ≠ r' := by
  have := SatP.perm h1.perm S.out
  obtain ⟨h, a, b, c⟩ := this
  obtain ⟨g, a', b', c'⟩ := SatP.perm h2.perm c
  rintro rfl
  have := b' _ _ a'
  rw [PH.minus_some a] at this
  cases this
theorem Sat.ex {α : Type} {f : α → HP} (S : Sat H (Den.ex f :: l)) : ∃ a, Sat H (f a :: l) := let ⟨a, x⟩ := SatP.ex_iff.1 S.out; ⟨a, ⟨x⟩⟩
theorem Sat.star (S : Sat H (Den.star m :: l)) : Sat H (m ++ l) := ⟨SatP.star_iff.1 S.out⟩
theorem Sat.lift {φ : Prop} (S : Sat H (Den.lift φ :: l)) : φ ∧ Sat H l := let ⟨p, x⟩ := SatP.lift_iff.1 S.out; ⟨p, ⟨x⟩⟩
theorem Sat.bring (S : Sat H l) {r : List HP} (s : Sel c l r) : Sat H (c :: r) := S.to (Ent.bring s)
end
end Go.Den

/- Going through a text step by step over memory in pieces: each step is found by its form. -/
set_option linter.unusedVariables false
set_option linter.unusedSimpArgs false
namespace Go.Den
open Go
/-- To show G it is enough to show G'. -/
class Step (G : Prop) (G' : outParam Prop) : Prop where
  go : G' → G
/-- Both; apart from 'and', so that nothing is unfolded to find it. -/
structure Duo (A B : Prop) : Prop where
  l : A
  r : B
class At (r : Nat) (o : outParam Obj) (l : List HP) : Prop where
  out : ∀ k, SatP k l → k r = some o
theorem At.of {r : Nat} {o : Obj} {l : List HP} (h : pt r o ∈ l) : At r o l := ⟨fun k x => by obtain ⟨g, h1, h2⟩ := x.mem h; exact h2 _ _ h1⟩
instance (priority := 2000) At.here {r : Nat} {o : Obj} {l : List HP} : At r o (pt r o :: l) := .of (List.mem_cons_self ..)
instance (priority := 1500) At.star {r : Nat} {o : Obj} {l m : List HP} [h : At r o m] : At r o (star m :: l) := ⟨fun k x => by obtain ⟨g, h1, h2, _⟩ := x; exact h2 _ _ (h.out g h1)⟩
instance (priority := 1000) At.there {r : Nat} {o : Obj} {c : HP} {l : List HP} [h : At r o l] : At r o (c :: l) := ⟨fun k x => h.out k x.tail⟩
theorem At.get {H : Heap} {r : Nat} {o : Obj} {l : List HP} (A : At r o l) (S : Sat H l) : H[r]? = some o := A.out _ S.out
class Put (r : Nat) (o' : Obj) (l : List HP) (l' : outParam (List HP)) : Prop where
  out : ∃ o m, Sel (pt r o) l m ∧ Sel (pt r o') l' m
instance (priority := 2000) Put.here {r : Nat} {o o' : Obj} {l : List HP} : Put r o' (pt r o :: l) (pt r o' :: l) := ⟨o, l, .here, .here⟩
instance (priority := 1000) Put.there {r : Nat} {o' : Obj} {c : HP} {l l' : List HP} [h : Put r o' l l'] : Put r o' (c :: l) (c :: l') := by
  obtain ⟨o, m, a, b⟩ := h.out
  exact ⟨o, c :: m, a.there, b.there⟩
class Nth {α : Type} (l : List α) (j : Nat) (v : outParam α) : Prop where
  out : l[j]? = some v
instance (priority := 2000) Nth.here {α : Type} {a : α} {l : List α} : Nth (a :: l) 0 a := ⟨rfl⟩
instance (priority := 1000) Nth.there {α : Type} {a v : α} {l : List α} {j : Nat} [h : Nth l j v] : Nth (a :: l) (j + 1) v := ⟨by simpa using h.out⟩
class SetN {α : Type} (l : List α) (j : Nat) (v : α) (l' : outParam (List α)) : Prop where
  out : l.set j v = l'
instance (priority := 2000) SetN.here {α : Type} {a v : α} {l : List α} : SetN (a :: l) 0 v (v :: l) := ⟨rfl⟩
instance (priority := 1000) SetN.there {α : Type} {a v : α} {l l' : List α} {j : Nat} [h : SetN l j v l'] : SetN (a :: l) (j + 1) v (a :: l') := ⟨by rw [List.set_cons_succ, h.out]⟩
class IsC (v : Value) : Prop where
  out : isCell v = true
instance {k n} : IsC (.int k n) := ⟨rfl⟩
instance {b} : IsC (.bool b) := ⟨rfl⟩
instance {b} : IsC (.string b) := ⟨rfl⟩
instance {b} : IsC (.pointer b) := ⟨rfl⟩
instance {a b c} : IsC (.slice a b c) := ⟨rfl⟩
instance {b} : IsC (.map b) := ⟨rfl⟩
instance {a b} : IsC (.iface a b) := ⟨rfl⟩
instance : IsC .nilIface := ⟨rfl⟩
instance {a b c} : IsC (.func a b c) := ⟨rfl⟩
instance : IsC .nilFunc := ⟨rfl⟩
instance {i : IV} : IsC i.v := ⟨isCell_IV i⟩
instance {i : FV} : IsC i.v := ⟨isCell_FV i⟩
/-- An address's block and place. -/
class Loca (a : Addr) (r j : outParam Nat) : Prop where
  out : a = ⟨r, j, none⟩
instance (priority := 2000) {r j : Nat} : Loca ⟨r, j, none⟩ r j := ⟨rfl⟩
instance (priority := 1900) {r k : Nat} : Loca (Addr.add ⟨r, 0, none⟩ k) r k := ⟨by rw [add_mk, Nat.zero_add]⟩
instance (priority := 1000) {a : Addr} {r i k : Nat} [h : Loca a r i] : Loca (Addr.add a k) r (i + k) := ⟨by rw [h.out, add_mk]⟩
section
variable {P : Program} {H : Heap} {l : List HP} {r j : Nat} {a : Addr} {cs : List Value} {T : TypeId} {fr : Nat × Nat}
theorem at_cell {v : Value} (S : Sat H l) (L : Loca a r j) (A : At r (.cells ⟨cs⟩ T fr) l) (N : Nth cs j v) : hcell H a = some v := by
  rw [L.out]
  exact hcell_of (A.get S) N.out
instance {kd : IntKind} {n : Int} {K : Int → Prop} [S : Sat H l] [L : Loca a r j] [A : At r (.cells ⟨cs⟩ T fr) l] [N : Nth cs j (.int kd n)] : Step (ldInt H a kd K) (K n) := ⟨fun h => ⟨_, at_cell S L A N, h⟩⟩
instance {n : Bool} {K : Bool → Prop} [S : Sat H l] [L : Loca a r j] [A : At r (.cells ⟨cs⟩ T fr) l] [N : Nth cs j (.bool n)] : Step (ldBool H a K) (K n) := ⟨fun h => ⟨_, at_cell S L A N, h⟩⟩
instance {n : ByteArray} {K : ByteArray → Prop} [S : Sat H l] [L : Loca a r j] [A : At r (.cells ⟨cs⟩ T fr) l] [N : Nth cs j (.string n)] : Step (ldStr H a K) (K n) := ⟨fun h => ⟨_, at_cell S L A N, h⟩⟩
instance {n : Option Addr} {K : Option Addr → Prop} [S : Sat H l] [L : Loca a r j] [A : At r (.cells ⟨cs⟩ T fr) l] [N : Nth cs j (.pointer n)] : Step (ldPtr H a K) (K n) := ⟨fun h => ⟨_, at_cell S L A N, h⟩⟩
instance {p : Option Addr} {n c : Nat} {K : Option Addr → Nat → Nat → Prop} [S : Sat H l] [L : Loca a r j] [A : At r (.cells ⟨cs⟩ T fr) l] [N : Nth cs j (.slice p n c)] : Step (ldSl H a K) (K p n c) := ⟨fun h => ⟨_, _, _, at_cell S L A N, h⟩⟩
instance {n : Option Nat} {K : Option Nat → Prop} [S : Sat H l] [L : Loca a r j] [A : At r (.cells ⟨cs⟩ T fr) l] [N : Nth cs j (.map n)] : Step (ldMap H a K) (K n) := ⟨fun h => ⟨_, at_cell S L A N, h⟩⟩
instance {K : IV → Prop} [S : Sat H l] [L : Loca a r j] [A : At r (.cells ⟨cs⟩ T fr) l] [N : Nth cs j .nilIface] : Step (ldIf H a K) (K .nil) := ⟨fun h => ⟨.nil, at_cell S L A N, h⟩⟩
instance {t : TypeId} {x : Value} {K : IV → Prop} [S : Sat H l] [L : Loca a r j] [A : At r (.cells ⟨cs⟩ T fr) l] [N : Nth cs j (.iface t x)] : Step (ldIf H a K) (K (.mk t x)) := ⟨fun h => ⟨.mk t x, at_cell S L A N, h⟩⟩
instance {i : IV} {K : IV → Prop} [S : Sat H l] [L : Loca a r j] [A : At r (.cells ⟨cs⟩ T fr) l] [N : Nth cs j i.v] : Step (ldIf H a K) (K i) := ⟨fun h => ⟨i, at_cell S L A N, h⟩⟩
instance {K : FV → Prop} [S : Sat H l] [L : Loca a r j] [A : At r (.cells ⟨cs⟩ T fr) l] [N : Nth cs j .nilFunc] : Step (ldFn H a K) (K .nil) := ⟨fun h => ⟨.nil, at_cell S L A N, h⟩⟩
instance {fn : Fn} {x y : Array Value} {K : FV → Prop} [S : Sat H l] [L : Loca a r j] [A : At r (.cells ⟨cs⟩ T fr) l] [N : Nth cs j (.func fn x y)] : Step (ldFn H a K) (K (.mk fn x y)) := ⟨fun h => ⟨.mk fn x y, at_cell S L A N, h⟩⟩
instance {i : FV} {K : FV → Prop} [S : Sat H l] [L : Loca a r j] [A : At r (.cells ⟨cs⟩ T fr) l] [N : Nth cs j i.v] : Step (ldFn H a K) (K i) := ⟨fun h => ⟨i, at_cell S L A N, h⟩⟩
theorem Sat.put {o' : Obj} {l' : List HP} {H1 : Heap} (S : Sat H l) (U : Put r o' l l') (u : Upd r o' H H1) : Sat H1 l' := by
  obtain ⟨o, m, a, b⟩ := U.out
  exact ((S.bring a).upd u).to (fun k x => SatP.perm b.perm.symm x)
instance {v : Value} {cs' : List Value} {l' : List HP} {u : Value} {K : Heap → Prop} [S : Sat H l] [L : Loca a r j] [A : At r (.cells ⟨cs⟩ T) l] [N : Nth cs j u] [V : SetN cs j v cs'] [C : IsC v] [U : Put r (.cells ⟨cs'⟩ T) l l'] :
    Step (st1 H a v K) (∀ H1, Sat H1 l' → K H1) := ⟨fun h => by
  rw [L.out]
  refine st1_of (A.get S) N.out C.out fun H1 u => h H1 ?_
  rw [V.out] at u
  exact S.put U u⟩
instance {o : Obj} {K : Nat → Heap → Prop} [S : Sat H l] : Step (newD H o K) (∀ r H1, Sat H1 (pt r o :: l) → K r H1) := ⟨fun h => h _ _ (S.push o)⟩
instance {bytes : Nat} {zs : List Value} {E : TypeId} {n c : Int} {K : Nat → Nat → Nat → Heap → Prop} [S : Sat H l] : Step (mkD H bytes zs E n c K) (Duo (bytes ≠ 0) (Duo (0 ≤ n) (Duo (n ≤ c) (Duo ((bytes : Int) * c ≤ 2 ^ 48) (∀ r H1, Sat H1 (pt r (.cells ⟨repZ zs c.toNat⟩ E) :: l) → K r n.toNat c.toNat H1))))) :=
  ⟨fun h => ⟨h.1, h.2.1, h.2.2.1, h.2.2.2.1, h.2.2.2.2 _ _ (S.push _)⟩⟩
instance {E : TypeId} {s : ByteArray} {K : Nat → Nat → Heap → Prop} [S : Sat H l] : Step (sbD H E s K) (Duo (s.size < 2 ^ 63) (∀ r c H1, s.size ≤ c → Sat H1 (pt r (.cells ⟨bytesOf s.data.toList ++ List.replicate (c - s.size) (.int .u8 0)⟩ E (c, c + 1)) :: l) → K r c H1)) :=
  ⟨fun h => ⟨h.1, fun cap hc => h.2 _ cap _ hc (S.push _)⟩⟩
instance {a : Addr} {k : Addr → Prop} : Step (nilD (some a) k) (k a) := ⟨id⟩
instance {X : Prop} : Step (guardB true X) X := ⟨id⟩
instance {A B : Prop} : Step (iteB true A B) A := ⟨id⟩
instance {A B : Prop} : Step (iteB false A B) B := ⟨id⟩
instance {kd : IntKind} {n : Int} {k : Int → Prop} : Step (tInt (.int kd n) kd k) (k n) := ⟨tInt_i⟩
instance {n : Bool} {k : Bool → Prop} : Step (tBool (.bool n) k) (k n) := ⟨tBool_i⟩
instance {n : ByteArray} {k : ByteArray → Prop} : Step (tStr (.string n) k) (k n) := ⟨tStr_i⟩
instance {n : Option Addr} {k : Option Addr → Prop} : Step (tPtr (.pointer n) k) (k n) := ⟨tPtr_i⟩
instance {p : Option Addr} {n c : Nat} {k : Option Addr → Nat → Nat → Prop} : Step (tSl (.slice p n c) k) (k p n c) := ⟨tSl_i⟩
instance {n : Option Nat} {k : Option Nat → Prop} : Step (tMap (.map n) k) (k n) := ⟨tMap_i⟩
instance {n : IV} {k : IV → Prop} : Step (tIf n.v k) (k n) := ⟨tIf_i⟩
instance {k : IV → Prop} : Step (tIf .nilIface k) (k .nil) := ⟨tIf_nil⟩
instance {t : TypeId} {x : Value} {k : IV → Prop} : Step (tIf (.iface t x) k) (k (.mk t x)) := ⟨tIf_mk⟩
instance {n : FV} {k : FV → Prop} : Step (tFn n.v k) (k n) := ⟨tFn_i⟩
instance {k : FV → Prop} : Step (tFn .nilFunc k) (k .nil) := ⟨fun h => ⟨.nil, rfl, h⟩⟩
instance {fn : Fn} {x y : Array Value} {k : FV → Prop} : Step (tFn (.func fn x y) k) (k (.mk fn x y)) := ⟨tFn_mk⟩
instance {l : List Value} {k : List Value → Prop} : Step (tAgg (.agg ⟨l⟩) k) (k l) := ⟨tAgg_i⟩
instance {l : List Value} {k : List Value → Prop} : Step (tTup (.tuple ⟨l⟩) k) (k l) := ⟨tTup_i⟩
instance {v : Value} {r : List Value} {k : Value → List Value → Prop} : Step (tCons (v :: r) k) (k v r) := ⟨tCons_i⟩
instance {K : Prop} : Step (tNil [] K) K := ⟨tNil_i⟩
instance {K : Value → Heap → Prop} {Q : List PanicEntry → Heap → Prop} {v : Value} : Step (retK K Q (.returned v) H) (K v H) := ⟨id⟩
instance {A B : Prop} : Step (andD A B) (Duo A B) := ⟨fun h => ⟨h.1, h.2⟩⟩
/-- A place in a slice. -/
instance {a : Addr} {n : Nat} {i : Int} {k : Addr → Prop} : Step (idxD (some a) n i k) (Duo (0 ≤ i ∧ i < n) (k a)) := ⟨fun h => ⟨h.1.1, h.1.2, h.2⟩⟩
instance {n : Nat} {i : Int} {k : Prop} : Step (idxA n i k) (Duo (0 ≤ i ∧ i < n) k) := ⟨fun h => ⟨h.1.1, h.1.2, h.2⟩⟩
instance {i : Int} {y : Nat} {k : Nat → Prop} : Step (bndD i y k) (Duo (0 ≤ i ∧ i ≤ y) (k i.toNat)) := ⟨fun h => ⟨h.1.1, h.1.2, h.2⟩⟩
instance {b : Int} {k : Prop} : Step (divD b k) (Duo (b ≠ 0) k) := ⟨fun h => ⟨h.1, h.2⟩⟩
instance {b : Int} {k : Prop} : Step (shD b k) (Duo (0 ≤ b) k) := ⟨fun h => ⟨h.1, h.2⟩⟩
end
/-- What a call gives back, and the heap behind it. -/
theorem call_of {P : Program} {f : FuncId} {args : List Value} {H : Heap} {S : Ending → Heap → Prop} {Q : List PanicEntry → Heap → Prop} {K : Value → Heap → Prop} (hc : CallsH P f ⟨args⟩ H S) (k : ∀ e H1, S e H1 → retK K Q e H1) : callD P f args H Q K := CallsH.mono hc k
end Go.Den

/- Slices as pieces of memory: read, written, grown. -/
set_option linter.unusedVariables false
set_option linter.unusedSimpArgs false
namespace Go.Den
open Go
/-- A slice of records of z cells: some cells ahead of it, its records, cells to grow into. -/
def sl {α : Type} (f : α → List Value) (E : TypeId) (z : Nat) (p : Option Addr) (n c : Nat) (xs : List α) : HP := fun h =>
  xs.length = n ∧ (∀ x ∈ xs, (f x).length = z) ∧ n ≤ c ∧
    ((p = none ∧ c = 0) ∨ ∃ r pre sp, p = some ⟨r, List.length pre, none⟩ ∧ (c - n) * z ≤ List.length sp ∧ h r = some (.cells ⟨pre ++ xs.flatMap f ++ sp⟩ E))
section
variable {α : Type} {f : α → List Value} {E : TypeId} {z : Nat} {p : Option Addr} {n c : Nat} {xs : List α} {H H1 : Heap} {l m t : List HP} {k : PH}
theorem flat_len (hz : ∀ x ∈ xs, (f x).length = z) : (xs.flatMap f).length = xs.length * z := by
  induction xs with
  | nil => simp
  | cons x xs ih =>
    rw [List.flatMap_cons, List.length_append, ih (fun y hy => hz y (List.mem_cons_of_mem _ hy)), hz x (List.mem_cons_self ..), List.length_cons, Nat.add_mul, Nat.one_mul, Nat.add_comm]
theorem flat_at (hz : ∀ x ∈ xs, (f x).length = z) {i j : Nat} {x : α} {v : Value} (hi : xs[i]? = some x) (hj : (f x)[j]? = some v) : (xs.flatMap f)[i * z + j]? = some v := by
  induction xs generalizing i with
  | nil => simp at hi
  | cons y xs ih =>
    have hy := hz y (List.mem_cons_self ..)
    have hz' : ∀ x ∈ xs, (f x).length = z := fun w hw => hz w (List.mem_cons_of_mem _ hw)
    rw [List.flatMap_cons]
    cases i with
    | zero =>
      simp at hi
      subst hi
      have hl : j < (f y).length := by
        rcases Nat.lt_or_ge j (f y).length with h | h
        · exact h
        · rw [List.getElem?_eq_none h] at hj; cases hj
      rw [List.getElem?_append_left (by omega), Nat.zero_mul, Nat.zero_add]; exact hj
    | succ i =>
      have hi' : xs[i]? = some x := by simpa using hi
      rw [List.getElem?_append_right (by rw [hy, Nat.succ_mul]; omega), hy]
      rw [show (i + 1) * z + j - z = i * z + j by rw [Nat.succ_mul]; omega]
      exact ih hz' hi'
theorem flat_set (hz : ∀ x ∈ xs, (f x).length = z) {i j : Nat} {x y : α} {v : Value} (hi : xs[i]? = some x) (hj : j < z) (hy : f y = (f x).set j v) : (xs.flatMap f).set (i * z + j) v = (xs.set i y).flatMap f := by
  induction xs generalizing i with
  | nil => simp at hi
  | cons w xs ih =>
    have hw := hz w (List.mem_cons_self ..)
    have hz' : ∀ x ∈ xs, (f x).length = z := fun a ha => hz a (List.mem_cons_of_mem _ ha)
    cases i with
    | zero =>
      simp at hi
      subst hi
      rw [List.set_cons_zero, List.flatMap_cons, List.flatMap_cons, hy, Nat.zero_mul, Nat.zero_add, List.set_append_left _ _ (by omega)]
    | succ i =>
      have hi' : xs[i]? = some x := by simpa using hi
      rw [List.set_cons_succ, List.flatMap_cons, List.flatMap_cons, List.set_append_right _ _ (by rw [hw, Nat.succ_mul]; omega), hw,
        show (i + 1) * z + j - z = i * z + j by rw [Nat.succ_mul]; omega, ih hz' hi']
theorem sl.len {h : PH} (a : sl f E z p n c xs h) : xs.length = n ∧ n ≤ c := ⟨a.1, a.2.2.1⟩
theorem Sat.slLen (S : Sat H l) (hm : sl f E z p n c xs ∈ l) : xs.length = n ∧ n ≤ c := by
  obtain ⟨h, a, _⟩ := S.mem hm
  exact a.len
theorem Sat.slSome (S : Sat H l) (hm : sl f E z p n c xs ∈ l) (h0 : 0 < n) : ∃ r o, p = some ⟨r, o, none⟩ := by
  obtain ⟨h, ⟨a1, a2, a3, a4⟩, _⟩ := S.mem hm
  rcases a4 with ⟨_, rfl⟩ | ⟨r, pre, sp, rfl, _, _⟩
  · omega
  · exact ⟨r, pre.length, rfl⟩
theorem slCell_of {h : PH} {a : Addr} (hk : sl f E z (some a) n c xs h) (hs : PH.sub h (PH.of H)) {i j : Nat} {x : α} {v : Value} (hi : xs[i]? = some x) (hj : (f x)[j]? = some v) : hcell H (a.add (i * z + j)) = some v := by
  obtain ⟨a1, a2, a3, a4⟩ := hk
  rcases a4 with ⟨h0, _⟩ | ⟨r, pre, sp, he, _, hb⟩
  · cases h0
  · cases he
    rw [add_mk]
    refine hcell_of (hs _ _ hb) ?_
    rw [List.append_assoc, List.getElem?_append_right (by omega), Nat.add_sub_cancel_left]
    have := flat_at a2 hi hj
    rw [List.getElem?_append_left]
    · exact this
    · rcases Nat.lt_or_ge (i * z + j) (xs.flatMap f).length with h | h
      · exact h
      · rw [List.getElem?_eq_none h] at this; cases this
theorem Sat.slCell (S : Sat H l) {a : Addr} (hm : sl f E z (some a) n c xs ∈ l) {i j : Nat} {x : α} {v : Value} (hi : xs[i]? = some x) (hj : (f x)[j]? = some v) : hcell H (a.add (i * z + j)) = some v := by
  obtain ⟨h, a, hs⟩ := S.mem hm
  exact slCell_of a hs hi hj
theorem Sat.slOpen (S : Sat H (sl f E z p n c xs :: m)) : xs.length = n ∧ (∀ x ∈ xs, (f x).length = z) ∧ n ≤ c ∧
    ((p = none ∧ c = 0 ∧ Sat H m) ∨ ∃ r pre sp, p = some ⟨r, List.length pre, none⟩ ∧ (c - n) * z ≤ List.length sp ∧ Sat H (pt r (.cells ⟨pre ++ xs.flatMap f ++ sp⟩ E) :: m)) := by
  obtain ⟨h, ⟨a1, a2, a3, a4⟩, hs, x⟩ := S.out
  refine ⟨a1, a2, a3, ?_⟩
  rcases a4 with ⟨h0, h1⟩ | ⟨r, pre, sp, he, hl, hb⟩
  · exact .inl ⟨h0, h1, ⟨x.mono PH.minus_sub⟩⟩
  · exact .inr ⟨r, pre, sp, he, hl, ⟨h, hb, hs, x⟩⟩
theorem Ent.slClose {r o : Nat} {pre sp : List Value} (h1 : xs.length = n) (hz : ∀ x ∈ xs, (f x).length = z) (h2 : n ≤ c) (h3 : pre.length = o) (h4 : (c - n) * z ≤ sp.length) : Ent (pt r (.cells ⟨pre ++ xs.flatMap f ++ sp⟩ E) :: m) (sl f E z (some ⟨r, o, none⟩) n c xs :: m) :=
  Ent.first fun k hk => ⟨h1, hz, h2, .inr ⟨r, pre, sp, by rw [h3], h4, hk⟩⟩
theorem Ent.slNil (e : Ent l t) : Ent l (sl f E z none 0 0 [] :: t) := fun k x => ⟨fun _ => none, ⟨rfl, fun _ h => (by cases h), Nat.le_refl _, .inl ⟨rfl, rfl⟩⟩, fun _ _ h => (by cases h), (e k x).mono fun b o h => by rw [PH.minus_none rfl]; exact h⟩
/-- One cell of one record is written. -/
theorem Sat.slSet {a : Addr} (S : Sat H (sl f E z (some a) n c xs :: m)) {i j : Nat} {x y : α} {v : Value} {K : Heap → Prop} (hi : xs[i]? = some x) (hj : j < z) (hv : isCell v = true) (hy : f y = (f x).set j v)
    (k : ∀ H1, Sat H1 (sl f E z (some a) n c (xs.set i y) :: m) → K H1) : st1 H (a.add (i * z + j)) v K := by
  obtain ⟨a1, a2, a3, a4⟩ := S.slOpen
  rcases a4 with ⟨h0, _⟩ | ⟨r, pre, sp, he, hl, S1⟩
  · cases h0
  · cases he
    rw [add_mk]
    have hil : i < xs.length := by
      rcases Nat.lt_or_ge i xs.length with h | h
      · exact h
      · rw [List.getElem?_eq_none h] at hi; cases hi
    have hfl := flat_len a2
    have hle : i * z + j < (xs.flatMap f).length := by
      rw [hfl]
      have : (i + 1) * z ≤ xs.length * z := Nat.mul_le_mul_right z hil
      rw [Nat.succ_mul] at this
      omega
    refine st1_of (S1.at_ (List.mem_cons_self ..)) (List.getElem?_eq_getElem (by rw [List.length_append, List.length_append]; omega)) hv fun H1 u => k H1 ?_
    have S2 := S1.upd u
    rw [List.append_assoc, List.set_append_right _ _ (by omega), Nat.add_sub_cancel_left, List.set_append_left _ _ hle, flat_set a2 hi hj hy, ← List.append_assoc] at S2
    refine S2.to (Ent.slClose (by simpa using a1) ?_ a3 rfl hl)
    intro w hw
    rcases List.mem_or_eq_of_mem_set hw with hw | rfl
    · exact a2 w hw
    · rw [hy, List.length_set]; exact a2 x (List.mem_of_getElem? hi)
theorem stCs_front {r : Nat} {T : TypeId} {o : Nat} {K : Heap → Prop} : ∀ (us : List Value) (t : Nat) (H : Heap) (cs : List Value), Sat H (pt r (.cells ⟨cs⟩ T) :: m) → (∀ v ∈ us, isCell v = true) → o + t + us.length ≤ cs.length →
    (∀ H1, Sat H1 (pt r (.cells ⟨cs.take (o + t) ++ us ++ cs.drop (o + t + us.length)⟩ T) :: m) → K H1) → stCs ⟨r, o, none⟩ H t us K := by
  intro us
  induction us with
  | nil =>
    intro t H cs S _ hl k
    have h := k H
    simp only [List.append_nil, List.length_nil, Nat.add_zero, List.take_append_drop] at h
    exact h S
  | cons v us ih =>
    intro t H cs S hc hl k
    simp only [stCs]
    have hlt : o + t < cs.length := by simp at hl; omega
    rw [add_mk]
    refine st1_of (S.at_ (List.mem_cons_self ..)) (List.getElem?_eq_getElem hlt) (hc v (List.mem_cons_self ..)) fun H1 u => ?_
    refine ih (t + 1) H1 (cs.set (o + t) v) (S.upd u) (fun v hv => hc v (List.mem_cons_of_mem _ hv)) (by simp at hl ⊢; omega) ?_
    intro H2 S2
    refine k H2 ?_
    have e : (cs.set (o + t) v).take (o + (t + 1)) ++ us ++ (cs.set (o + t) v).drop (o + (t + 1) + us.length) = cs.take (o + t) ++ (v :: us) ++ cs.drop (o + t + (v :: us).length) := by
      rw [show o + (t + 1) = o + t + 1 from by omega, List.take_add_one, List.take_set_of_le (by omega)]
      simp only [List.getElem?_set_self hlt, Option.toList_some]
      rw [List.drop_set_of_lt (by omega)]
      simp only [List.append_assoc, List.singleton_append, List.cons_append, List.nil_append, List.length_cons, List.append_cancel_left_eq]
      rw [show o + t + 1 + us.length = o + t + (us.length + 1) from by omega]
    rw [e] at S2
    exact S2
theorem pre_seg {pre vs sp us : List Value} (h : us.length ≤ sp.length) : (pre ++ vs ++ sp).take (pre.length + vs.length) ++ us ++ (pre ++ vs ++ sp).drop (pre.length + vs.length + us.length) = pre ++ (vs ++ us) ++ sp.drop us.length := by
  have e1 : (pre ++ vs ++ sp).take (pre.length + vs.length) = pre ++ vs := by
    rw [show pre.length + vs.length = (pre ++ vs).length by simp, List.take_left]
  have e2 : (pre ++ vs ++ sp).drop (pre.length + vs.length + us.length) = sp.drop us.length := by
    rw [show pre.length + vs.length + us.length = (pre ++ vs).length + us.length by simp, List.drop_length_add_append]
  rw [e1, e2]
  simp
/-- The slice grows by records that stand somewhere. -/
theorem Sat.slApp (S : Sat H (sl f E z p n c xs :: m)) {bytes d : Nat} {zs : List Value} {q : Option Addr} {ys : List α} {K : Option Addr → Nat → Nat → Heap → Prop} (hq : cellsAt H q (ys.flatMap f)) (hd : ys.length = d) (hys : ∀ y ∈ ys, (f y).length = z) (hc : ∀ v ∈ ys.flatMap f, isCell v = true)
    (hzs : zs.length = z) (hb : bytes ≠ 0) (hs : (2 * (n + d) + 768) * bytes ≤ 2 ^ 48) (k : ∀ p' c' H1, Sat H1 (sl f E z p' (n + d) c' (xs ++ ys) :: m) → K p' (n + d) c' H1) : apD H z bytes zs E p n c q d K := by
  obtain ⟨a1, a2, a3, a4⟩ := S.slOpen
  have hall : ∀ x ∈ xs ++ ys, (f x).length = z := fun x hx => (List.mem_append.1 hx).elim (a2 x) (hys x)
  have hlen : (xs ++ ys).length = n + d := by simp [a1, hd]
  have hyl : (ys.flatMap f).length = d * z := by rw [flat_len hys, hd]
  have hxl : (xs.flatMap f).length = n * z := by rw [flat_len a2, a1]
  refine ⟨ys.flatMap f, hyl, hq, ?_, ?_⟩
  · intro hle
    rcases a4 with ⟨rfl, rfl, S1⟩ | ⟨r, pre, sp, rfl, hl, S1⟩
    · have hd0 : d = 0 := by omega
      have hn0 : n = 0 := by omega
      subst hd0; subst hn0
      have ex : xs = [] := List.eq_nil_of_length_eq_zero a1
      have ey : ys = [] := List.eq_nil_of_length_eq_zero hd
      subst ex; subst ey
      simp only [stP]
      exact k _ _ _ (S1.to (Ent.slNil .refl))
    · simp only [stP]
      rw [add_mk]
      have hroom : (ys.flatMap f).length ≤ sp.length := by rw [hyl]; exact Nat.le_trans (Nat.mul_le_mul_right z (by omega)) hl
      refine stCs_front (o := pre.length + n * z) (ys.flatMap f) 0 H _ S1 hc (by simp only [List.length_append, hxl]; omega) ?_
      intro H1 S2
      rw [Nat.add_zero, ← hxl, pre_seg hroom, ← List.flatMap_append] at S2
      refine k _ _ _ (S2.to (Ent.slClose hlen hall hle rfl ?_))
      rw [List.length_drop, hyl]
      have : (c - (n + d)) * z + d * z ≤ (c - n) * z := by rw [← Nat.add_mul]; exact Nat.mul_le_mul_right z (by omega)
      omega
  · intro hlt
    refine ⟨hb, ?_, ?_⟩
    · have := nextcap_le (n := n + d) (c := c) hlt
      exact Nat.le_trans (Nat.mul_le_mul_right _ this) hs
    · rcases a4 with ⟨rfl, rfl, S1⟩ | ⟨r, pre, sp, rfl, hl, S1⟩
      · have hn0 : n = 0 := by omega
        subst hn0
        have ex : xs = [] := List.eq_nil_of_length_eq_zero a1
        subst ex
        refine ⟨[], by simp, fun j v h => by simp at h, fun cap hcap => k _ _ _ ?_⟩
        have S2 := S1.push (.cells ⟨[] ++ ([] ++ ys).flatMap f ++ repZ zs (cap - (0 + d))⟩ E)
        simp only [List.nil_append] at S2 ⊢
        refine S2.to (Ent.slClose (pre := []) (by simpa using hd) (by simpa using hall) hcap rfl ?_)
        rw [repZ_length, hzs]; exact Nat.le_refl _
      · refine ⟨xs.flatMap f, hxl, ?_, fun cap hcap => k _ _ _ ?_⟩
        · intro j v hj
          refine ⟨_, rfl, ?_⟩
          rw [add_mk]
          refine hcell_of (S1.at_ (List.mem_cons_self ..)) ?_
          rw [List.append_assoc, List.getElem?_append_right (by omega), Nat.add_sub_cancel_left, List.getElem?_append_left]
          · exact hj
          · rcases Nat.lt_or_ge j (xs.flatMap f).length with h | h
            · exact h
            · rw [List.getElem?_eq_none h] at hj; cases hj
        · have S2 := S1.push (.cells ⟨[] ++ (xs ++ ys).flatMap f ++ repZ zs (cap - (n + d))⟩ E)
          have e : (xs.flatMap f ++ ys.flatMap f ++ repZ zs (cap - (n + d))) = [] ++ (xs ++ ys).flatMap f ++ repZ zs (cap - (n + d)) := by simp
          rw [e]
          have S3 : Sat (H.push (.cells ⟨[] ++ (xs ++ ys).flatMap f ++ repZ zs (cap - (n + d))⟩ E)) (sl f E z (some ⟨H.size, 0, none⟩) (n + d) cap (xs ++ ys) :: pt r (.cells ⟨pre ++ xs.flatMap f ++ sp⟩ E) :: m) := by
            refine S2.to (Ent.slClose (pre := []) hlen hall hcap rfl ?_)
            rw [repZ_length, hzs]; exact Nat.le_refl _
          exact S3.to (Ent.cons (Ent.drop .refl))
/-- A part of a slice. -/
theorem Ent.slPart {lo hi mx : Nat} (h1 : lo ≤ hi) (h2 : hi ≤ mx) (h3 : mx ≤ c) (h4 : hi ≤ n) : Ent (sl f E z p n c xs :: m) (sl f E z (slP p lo mx z) (hi - lo) (mx - lo) ((xs.drop lo).take (hi - lo)) :: m) := by
  refine Ent.first fun k hk => ?_
  obtain ⟨a1, a2, a3, a4⟩ := hk
  refine ⟨by simp; omega, fun x hx => a2 x (List.mem_of_mem_drop (List.mem_of_mem_take hx)), by omega, ?_⟩
  rcases a4 with ⟨rfl, rfl⟩ | ⟨r, pre, sp, rfl, hl, hb⟩
  · left
    refine ⟨?_, by omega⟩
    unfold slP; split <;> rfl
  · right
    have hz1 : ∀ x ∈ xs.take lo, (f x).length = z := fun x hx => a2 x (List.mem_of_mem_take hx)
    have hz2 : ∀ x ∈ (xs.drop lo).take (hi - lo), (f x).length = z := fun x hx => a2 x (List.mem_of_mem_drop (List.mem_of_mem_take hx))
    have hz3 : ∀ x ∈ (xs.drop lo).drop (hi - lo), (f x).length = z := fun x hx => a2 x (List.mem_of_mem_drop (List.mem_of_mem_drop hx))
    have e : xs.flatMap f = (xs.take lo).flatMap f ++ (((xs.drop lo).take (hi - lo)).flatMap f ++ ((xs.drop lo).drop (hi - lo)).flatMap f) := by
      rw [← List.flatMap_append, ← List.flatMap_append, List.take_append_drop, List.take_append_drop]
    have l1 : ((xs.take lo).flatMap f).length = lo * z := by rw [flat_len hz1]; congr 1; simp; omega
    have l3 : (((xs.drop lo).drop (hi - lo)).flatMap f).length = (n - hi) * z := by rw [flat_len hz3]; congr 1; simp; omega
    by_cases hm : mx = lo
    · have e0 : hi - lo = 0 := by omega
      have e1 : mx - lo = 0 := by omega
      rw [e0, e1]
      refine ⟨r, pre, xs.flatMap f ++ sp, by unfold slP; rw [if_pos hm], by simp, ?_⟩
      simpa using hb
    · refine ⟨r, pre ++ (xs.take lo).flatMap f, ((xs.drop lo).drop (hi - lo)).flatMap f ++ sp, ?_, ?_, ?_⟩
      · unfold slP; rw [if_neg hm, List.length_append, l1, Option.map_some, add_mk]
      · rw [List.length_append, l3]
        have : (mx - lo - (hi - lo)) * z ≤ (n - hi) * z + (c - n) * z := by rw [← Nat.add_mul]; exact Nat.mul_le_mul_right z (by omega)
        omega
      · rw [hb, e]; simp
end
/-! ### Found by their form -/
/-- A piece of the list. -/
class Piece (c : HP) (l : List HP) : Prop where
  out : c ∈ l
/-- The slice that begins at an address. -/
class SlAt (p : Option Addr) (l : List HP) (c : outParam HP) : Prop where
  out : ∀ k, SatP k l → ∃ h, c h ∧ PH.sub h k
theorem SlAt.of {p : Option Addr} {l : List HP} {c : HP} (h : c ∈ l) : SlAt p l c := ⟨fun k x => x.mem h⟩
instance (priority := 2000) SlAt.here {α : Type} {f : α → List Value} {E : TypeId} {z n c : Nat} {p : Option Addr} {xs : List α} {l : List HP} : SlAt p (sl f E z p n c xs :: l) (sl f E z p n c xs) := .of (List.mem_cons_self ..)
instance (priority := 1500) SlAt.star {p : Option Addr} {c : HP} {l m : List HP} [h : SlAt p m c] : SlAt p (Den.star m :: l) c := ⟨fun k x => by
  obtain ⟨g, h1, h2, _⟩ := x
  obtain ⟨f, h3, h4⟩ := h.out g h1
  exact ⟨f, h3, h4.trans h2⟩⟩
instance (priority := 1000) SlAt.there {p : Option Addr} {c d : HP} {l : List HP} [h : SlAt p l c] : SlAt p (d :: l) c := ⟨fun k x => h.out k x.tail⟩
/-- The slice that begins at an address is another one. -/
class SlPut (p : Option Addr) (c' : HP) (l : List HP) (l' : outParam (List HP)) : Prop where
  out : ∃ c m, Sel c l m ∧ Sel c' l' m
class SlSel (p : Option Addr) (c' : HP) (l : List HP) (c : outParam HP) (l' : outParam (List HP)) : Prop where
  out : ∃ m, Sel c l m ∧ Sel c' l' m
instance (priority := 2000) SlSel.here {α : Type} {f : α → List Value} {E : TypeId} {z n c : Nat} {p : Option Addr} {xs : List α} {l : List HP} {c' : HP} : SlSel p c' (sl f E z p n c xs :: l) (sl f E z p n c xs) (c' :: l) := ⟨l, .here, .here⟩
instance (priority := 1000) SlSel.there {p : Option Addr} {c c' d : HP} {l l' : List HP} [h : SlSel p c' l c l'] : SlSel p c' (d :: l) c (d :: l') := by
  obtain ⟨m, a, b⟩ := h.out
  exact ⟨d :: m, a.there, b.there⟩
/-- The cell of a slice's record. -/
class Elt (A : Addr) (a : outParam Addr) (i : outParam Int) (z j : outParam Nat) : Prop where
  out : A = a.add (i.toNat * z + j)
instance (priority := 2000) {a : Addr} {i : Int} {z : Nat} : Elt (Addr.add a (Int.toNat i * z)) a i z 0 := ⟨rfl⟩
instance (priority := 2000) {a : Addr} {i : Int} {z j : Nat} : Elt (Addr.add (Addr.add a (Int.toNat i * z)) j) a i z j := ⟨by rw [add_add']⟩
instance (priority := 1500) {A a : Addr} {i : Int} {z j k : Nat} [h : Elt A a i z j] : Elt (Addr.add A k) a i z (j + k) := ⟨by rw [h.out, add_add', Nat.add_assoc]⟩
class HasI {α : Type} (xs : List α) (i : Int) (x : outParam α) : Prop where
  out : xs[i.toNat]? = some x
class Enc {α : Type} (f : α → List Value) (cs : List Value) (y : outParam α) : Prop where
  out : f y = cs
section
variable {α : Type} {f : α → List Value} {E : TypeId} {z : Nat} {n c : Nat} {xs : List α} {H H1 : Heap} {l m t : List HP} {A a : Addr} {i : Int} {j : Nat} {x : α}
theorem elt_cell {v : Value} (S : Sat H l) (L : Elt A a i z j) (F : SlAt (some a) l (sl f E z (some a) n c xs)) (X : HasI xs i x) (N : Nth (f x) j v) : hcell H A = some v := by
  rw [L.out]
  obtain ⟨h, h1, h2⟩ := F.out _ S.out
  exact slCell_of h1 h2 X.out N.out
instance {kd : IntKind} {k : Int} {K : Int → Prop} [S : Sat H l] [L : Elt A a i z j] [F : SlAt (some a) l (sl f E z (some a) n c xs)] [X : HasI xs i x] [N : Nth (f x) j (.int kd k)] : Step (ldInt H A kd K) (K k) := ⟨fun h => ⟨_, elt_cell S L F X N, h⟩⟩
instance {k : Bool} {K : Bool → Prop} [S : Sat H l] [L : Elt A a i z j] [F : SlAt (some a) l (sl f E z (some a) n c xs)] [X : HasI xs i x] [N : Nth (f x) j (.bool k)] : Step (ldBool H A K) (K k) := ⟨fun h => ⟨_, elt_cell S L F X N, h⟩⟩
instance {k : ByteArray} {K : ByteArray → Prop} [S : Sat H l] [L : Elt A a i z j] [F : SlAt (some a) l (sl f E z (some a) n c xs)] [X : HasI xs i x] [N : Nth (f x) j (.string k)] : Step (ldStr H A K) (K k) := ⟨fun h => ⟨_, elt_cell S L F X N, h⟩⟩
instance {k : Option Addr} {K : Option Addr → Prop} [S : Sat H l] [L : Elt A a i z j] [F : SlAt (some a) l (sl f E z (some a) n c xs)] [X : HasI xs i x] [N : Nth (f x) j (.pointer k)] : Step (ldPtr H A K) (K k) := ⟨fun h => ⟨_, elt_cell S L F X N, h⟩⟩
instance {p : Option Addr} {u w : Nat} {K : Option Addr → Nat → Nat → Prop} [S : Sat H l] [L : Elt A a i z j] [F : SlAt (some a) l (sl f E z (some a) n c xs)] [X : HasI xs i x] [N : Nth (f x) j (.slice p u w)] : Step (ldSl H A K) (K p u w) := ⟨fun h => ⟨_, _, _, elt_cell S L F X N, h⟩⟩
instance {k : Option Nat} {K : Option Nat → Prop} [S : Sat H l] [L : Elt A a i z j] [F : SlAt (some a) l (sl f E z (some a) n c xs)] [X : HasI xs i x] [N : Nth (f x) j (.map k)] : Step (ldMap H A K) (K k) := ⟨fun h => ⟨_, elt_cell S L F X N, h⟩⟩
theorem Sat.resel {c c' : HP} {l l' : List HP} {p : Option Addr} (S : Sat H l) (U : SlSel p c' l c l') : ∃ m, Sat H (c :: m) ∧ ∀ H1, Sat H1 (c' :: m) → Sat H1 l' := by
  obtain ⟨m, a, b⟩ := U.out
  exact ⟨m, S.bring a, fun H1 S1 => S1.to fun k x => SatP.perm b.perm.symm x⟩
instance {v : Value} {cs' : List Value} {y : α} {l' : List HP} {K : Heap → Prop} [S : Sat H l] [L : Elt A a i z j] [F : SlAt (some a) l (sl f E z (some a) n c xs)] [X : HasI xs i x] [V : SetN (f x) j v cs'] [Y : Enc f cs' y] [C : IsC v] [U : SlSel (some a) (sl f E z (some a) n c (xs.set i.toNat y)) l (sl f E z (some a) n c xs) l'] :
    Step (st1 H A v K) (Duo (j < z) (∀ H1, Sat H1 l' → K H1)) := ⟨fun h => by
  rw [L.out]
  obtain ⟨m, S1, back⟩ := S.resel U
  exact S1.slSet X.out h.1 C.out (by rw [Y.out, V.out]) fun H1 S2 => h.2 H1 (back H1 S2)⟩
/-- A place in a slice that is known. -/
theorem Sat.idx (S : Sat H l) {p : Option Addr} {k : Addr → Prop} [F : SlAt p l (sl f E z p n c xs)] (h : 0 ≤ i ∧ i < n ∧ ∀ r o, p = some ⟨r, o, none⟩ → k ⟨r, o, none⟩) : idxD p n i k := by
  obtain ⟨h0, h1, h2⟩ := h
  obtain ⟨h, ⟨a1, a2, a3, a4⟩, _⟩ := F.out _ S.out
  obtain ⟨r, o, rfl⟩ : ∃ r o, p = some ⟨r, o, none⟩ := by
    rcases a4 with ⟨_, rfl⟩ | ⟨r, pre, sp, rfl, _, _⟩
    · omega
    · exact ⟨r, pre.length, rfl⟩
  exact ⟨h0, h1, h2 r o rfl⟩
/-- One record is put behind a slice: out of a block of its own. -/
instance {p : Option Addr} {r : Nat} {cs zs : List Value} {T : TypeId} {fr : Nat × Nat} {y : α} {bytes : Nat} {l' : Option Addr → Nat → List HP} {K : Option Addr → Nat → Nat → Heap → Prop} [S : Sat H l] [F : SlAt p l (sl f E z p n c xs)] [B : At r (.cells ⟨cs⟩ T fr) l] [Y : Enc f cs y] [U : ∀ p' c', SlSel p (sl f E z p' (n + 1) c' (xs ++ [y])) l (sl f E z p n c xs) (l' p' c')] :
    Step (apD H z bytes zs E p n c (some ⟨r, 0, none⟩) 1 K) (Duo (zs.length = z) (Duo (bytes ≠ 0 ∧ (2 * (n + 1) + 768) * bytes ≤ 2 ^ 48) (Duo (cs.length = z) (Duo (cs.all isCell = true) (∀ p' c' H1, Sat H1 (l' p' c') → K p' (n + 1) c' H1))))) := ⟨fun h => by
  obtain ⟨h1, ⟨h2, h3⟩, h4, h5', hk⟩ := h
  have h5 : ∀ v ∈ cs, isCell v = true := fun v hv => List.all_eq_true.1 h5' v hv
  obtain ⟨m, a, _⟩ := (U none 0).out
  have S1 := S.bring a
  have key : ∀ p' c' H1, Sat H1 (sl f E z p' (n + 1) c' (xs ++ [y]) :: m) → Sat H1 (l' p' c') := by
    intro p' c' H1 S2
    obtain ⟨m', a', b'⟩ := (U p' c').out
    have : m'.Perm m := List.Perm.cons_inv (a'.perm.symm.trans a.perm)
    exact S2.to fun k x => SatP.perm b'.perm.symm (SatP.perm (this.symm.cons _) x)
  refine S1.slApp (ys := [y]) (by
    simp only [List.flatMap_cons, List.flatMap_nil, List.append_nil, Y.out]
    intro j v hj
    exact ⟨_, rfl, by rw [add_mk, Nat.zero_add]; exact hcell_of (B.get S) hj⟩) rfl (by
    intro w hw; simp at hw; subst hw; rw [Y.out]; exact h4) (by simpa [Y.out] using h5) h1 h2 h3 fun p' c' H1 S2 => hk p' c' H1 (key p' c' H1 S2)⟩
end
/-! ### A piece for each of a list -/
def bigs {α : Type} (f : Nat → α → HP) : Nat → List α → List HP
  | _, [] => []
  | k, x :: xs => f k x :: bigs f (k + 1) xs
section
variable {α : Type} {f : Nat → α → HP}
theorem bigs_at : ∀ {xs : List α} {k i : Nat} {x : α}, xs[i]? = some x → ∃ R, (bigs f k xs).Perm (f (k + i) x :: R) ∧ ∀ y, (bigs f k (xs.set i y)).Perm (f (k + i) y :: R)
  | [], k, i, x, h => by simp at h
  | w :: xs, k, 0, x, h => by
    simp at h
    subst h
    exact ⟨bigs f (k + 1) xs, by simp [bigs], fun y => by simp [bigs]⟩
  | w :: xs, k, i + 1, x, h => by
    obtain ⟨R, h1, h2⟩ := bigs_at (xs := xs) (k := k + 1) (i := i) (x := x) (by simpa using h)
    have e : k + 1 + i = k + (i + 1) := by omega
    rw [e] at h1
    refine ⟨f k w :: R, (h1.cons _).trans (.swap _ _ _), fun y => ?_⟩
    have h3 := h2 y
    rw [e] at h3
    rw [List.set_cons_succ]
    exact (h3.cons _).trans (.swap _ _ _)
theorem bigs_append : ∀ {xs ys : List α} {k : Nat}, bigs f k (xs ++ ys) = bigs f k xs ++ bigs f (k + xs.length) ys
  | [], ys, k => by simp [bigs]
  | x :: xs, ys, k => by
    simp only [List.cons_append, bigs, bigs_append (xs := xs), List.length_cons]
    rw [show k + 1 + xs.length = k + (xs.length + 1) by omega]
theorem bigs_mem {xs : List α} {k i : Nat} {x : α} (h : xs[i]? = some x) : f (k + i) x ∈ bigs f k xs := by
  obtain ⟨R, h1, _⟩ := bigs_at (f := f) (k := k) h
  exact h1.mem_iff.2 (List.mem_cons_self ..)
/-- One piece is taken out, to be put back as another one's. -/
theorem Sat.bigOut {H : Heap} {xs : List α} {k i : Nat} {x : α} {l : List HP} (S : Sat H (Den.star (bigs f k xs) :: l)) (h : xs[i]? = some x) : ∃ R, Sat H (f (k + i) x :: Den.star R :: l) ∧ ∀ y, Ent (f (k + i) y :: Den.star R :: l) (Den.star (bigs f k (xs.set i y)) :: l) := by
  obtain ⟨R, h1, h2⟩ := bigs_at (f := f) (k := k) h
  have key : ∀ (c : HP) (m : List HP), m.Perm (c :: R) → Ent (Den.star m :: l) (c :: Den.star R :: l) ∧ Ent (c :: Den.star R :: l) (Den.star m :: l) := by
    intro c m hm
    constructor
    · intro q x
      have x1 := SatP.star_iff.1 x
      have x2 : SatP q ((c :: R) ++ l) := SatP.perm (hm.append_right l) x1
      exact SatP.cons_mono (fun q x => SatP.star_iff.2 x) x2
    · intro q x
      have x1 : SatP q (c :: (R ++ l)) := SatP.cons_mono (fun q x => SatP.star_iff.1 x) x
      exact SatP.star_iff.2 (SatP.perm (hm.symm.append_right l) x1)
  exact ⟨R, S.to (key _ _ h1).1, fun y => (key _ _ (h2 y)).2⟩
theorem bigs_at2 : ∀ {xs : List α} {k i j : Nat} {x y : α}, xs[i]? = some x → xs[j]? = some y → i ≠ j → ∃ R, (bigs f k xs).Perm (f (k + i) x :: f (k + j) y :: R) ∧ ∀ x' y', (bigs f k ((xs.set i x').set j y')).Perm (f (k + i) x' :: f (k + j) y' :: R)
  | [], k, i, j, x, y, h, _, _ => by simp at h
  | w :: xs, k, 0, 0, x, y, _, _, h => by omega
  | w :: xs, k, 0, j + 1, x, y, h1, h2, _ => by
    simp at h1
    subst h1
    obtain ⟨R, h3, h4⟩ := bigs_at (f := f) (xs := xs) (k := k + 1) (i := j) (x := y) (by simpa using h2)
    have e : k + 1 + j = k + (j + 1) := by omega
    rw [e] at h3
    refine ⟨R, by simpa [bigs] using h3, fun x' y' => ?_⟩
    have h5 := h4 y'
    rw [e] at h5
    simpa [bigs] using h5
  | w :: xs, k, i + 1, 0, x, y, h1, h2, _ => by
    simp at h2
    subst h2
    obtain ⟨R, h3, h4⟩ := bigs_at (f := f) (xs := xs) (k := k + 1) (i := i) (x := x) (by simpa using h1)
    have e : k + 1 + i = k + (i + 1) := by omega
    rw [e] at h3
    refine ⟨R, by simpa [bigs] using (h3.cons _).trans (.swap _ _ _), fun x' y' => ?_⟩
    have h5 := h4 x'
    rw [e] at h5
    simpa [bigs] using (h5.cons _).trans (.swap _ _ _)
  | w :: xs, k, i + 1, j + 1, x, y, h1, h2, h => by
    obtain ⟨R, h3, h4⟩ := bigs_at2 (xs := xs) (k := k + 1) (i := i) (j := j) (x := x) (y := y) (by simpa using h1) (by simpa using h2) (by omega)
    have e1 : k + 1 + i = k + (i + 1) := by omega
    have e2 : k + 1 + j = k + (j + 1) := by omega
    rw [e1, e2] at h3
    have sw : ∀ (a b c : HP) (R : List HP), (c :: a :: b :: R).Perm (a :: b :: c :: R) := fun a b c R => (List.Perm.swap a c (b :: R)).trans ((List.Perm.swap b c R).cons a)
    refine ⟨f k w :: R, by simpa [bigs] using (h3.cons _).trans (sw _ _ _ _), fun x' y' => ?_⟩
    have h5 := h4 x' y'
    rw [e1, e2] at h5
    simpa [bigs] using (h5.cons _).trans (sw _ _ _ _)
theorem Ent.starPerm {a b l : List HP} (h : a.Perm b) : Ent (Den.star a :: l) (Den.star b :: l) := fun q x => SatP.star_iff.2 (SatP.perm (h.append_right l) (SatP.star_iff.1 x))
theorem Ent.starCons {c : HP} {a l : List HP} : Ent (Den.star (c :: a) :: l) (c :: Den.star a :: l) := fun q x => SatP.cons_mono (fun q x => SatP.star_iff.2 x) (SatP.star_iff.1 x)
theorem Ent.consStar {c : HP} {a l : List HP} : Ent (c :: Den.star a :: l) (Den.star (c :: a) :: l) := fun q x => SatP.star_iff.2 (SatP.cons_mono (fun q x => SatP.star_iff.1 x) x)
theorem Sat.bigOut2 {H : Heap} {xs : List α} {k i j : Nat} {x y : α} {l : List HP} (S : Sat H (Den.star (bigs f k xs) :: l)) (h1 : xs[i]? = some x) (h2 : xs[j]? = some y) (h : i ≠ j) : ∃ R, Sat H (f (k + i) x :: f (k + j) y :: Den.star R :: l) ∧ ∀ x' y', Ent (f (k + i) x' :: f (k + j) y' :: Den.star R :: l) (Den.star (bigs f k ((xs.set i x').set j y')) :: l) := by
  obtain ⟨R, h3, h4⟩ := bigs_at2 (f := f) (k := k) h1 h2 h
  refine ⟨R, S.to (((Ent.starPerm h3).trans .starCons).trans (.cons .starCons)), fun x' y' => ((Ent.cons Ent.consStar).trans .consStar).trans (.starPerm (h4 x' y').symm)⟩
end
end Go.Den

/- Lists of pieces held against each other; maps as pieces of memory; tests. -/
set_option linter.unusedVariables false
set_option linter.unusedSectionVars false
set_option linter.unusedSimpArgs false
namespace Go.Den
open Go
/-! ### Lists of pieces -/
class Take (c : HP) (l : List HP) (r : outParam (List HP)) : Prop where
  out : Sel c l r
instance (priority := 2000) Take.here {c : HP} {l : List HP} : Take c (c :: l) l := ⟨.here⟩
instance (priority := 1000) Take.there {c d : HP} {l r : List HP} [h : Take c l r] : Take c (d :: l) (d :: r) := ⟨.there h.out⟩
class Fits (l m : List HP) : Prop where
  out : Ent l m
instance (priority := 3000) Fits.refl {l : List HP} : Fits l l := ⟨.refl⟩
instance (priority := 2500) Fits.nil {l : List HP} : Fits l [] := ⟨.nil⟩
instance (priority := 2000) Fits.pick {c : HP} {l m r : List HP} [a : Take c l r] [b : Fits r m] : Fits l (c :: m) := ⟨.pick a.out b.out⟩
instance (priority := 1000) Fits.drop {c : HP} {l m : List HP} [b : Fits l m] : Fits (c :: l) m := ⟨.drop b.out⟩
theorem Sat.done {H : Heap} {l m : List HP} (S : Sat H l) [F : Fits l m] : Sat H m := S.to F.out
theorem Sat.fin {H : Heap} {l m : List HP} [S : Sat H l] [F : Fits l m] : Sat H m := S.to F.out
/-- A closed test. -/
structure Clo (b : Bool) : Prop where
  out : b = true
theorem iteB_t {b : Bool} {A B : Prop} (h : b = true) (a : A) : iteB b A B := by subst h; exact a
theorem iteB_f {b : Bool} {A B : Prop} (h : b = false) (a : B) : iteB b A B := by subst h; exact a
/-! ### Assertions of a type -/
def concT (P : Program) (t : TypeId) : Bool := match P.underlying t with | some (.interface _) => false | some _ => true | none => false
section
variable {P : Program} {H : Heap} {Q : List PanicEntry → Heap → Prop}
theorem assert_same {t xt : TypeId} {v : Value} {K : Value → Heap → Prop} (h : concT P t = true) (k : K v H) : valD P (Instr.typeAssert (.iface t v) xt t false) H Q K := by
  refine ⟨?_⟩
  unfold concT at h
  unfold Instr.typeAssert
  split at h
  · cases h
  · rename_i d hni hu
    rw [SemH_bind, SemH_underlying hu]
    cases d <;> simp only [if_true] <;> first | exact k | exact (hni _ rfl).elim
  · cases h
instance {t xt : TypeId} {v : Value} {K : Value → Heap → Prop} : Step (valD P (Instr.typeAssert (.iface t v) xt t false) H Q K) (Duo (Clo (concT P t)) (K v H)) := ⟨fun h => assert_same h.1.out h.2⟩
instance {t xt : TypeId} {v : Value} {K : Value → Heap → Prop} : Step (valD P (Instr.typeAssert (IV.v (.mk t v)) xt t false) H Q K) (Duo (Clo (concT P t)) (K v H)) := ⟨fun h => assert_same h.1.out h.2⟩
end
/-! ### Maps -/
def mget {κ ν : Type} [DecidableEq κ] : List (κ × ν) → κ → Option ν
  | [], _ => none
  | (a, v) :: m, k => if k = a then some v else mget m k
def mset {κ ν : Type} [DecidableEq κ] : List (κ × ν) → κ → ν → List (κ × ν)
  | [], k, v => [(k, v)]
  | (a, w) :: m, k, v => if k = a then (k, v) :: m else (a, w) :: mset m k v
def mdel {κ ν : Type} [DecidableEq κ] : List (κ × ν) → κ → List (κ × ν)
  | [], _ => []
  | (a, w) :: m, k => if k = a then m else (a, w) :: mdel m k
/-- Keys of a map: how they are written, and that they are told apart. -/
structure KeyT (P : Program) (kt : TypeId) {κ : Type} [DecidableEq κ] (fk : κ → Value) : Prop where
  chk : ∀ b k, pureV P (Instr.checkKey b 10000 kt (fk k)) = some ()
  find : ∀ k, ∃ eqv : Value → Bool, (∀ k', eqv (fk k') = decide (k = k')) ∧ ∀ es : List MapEntry, (∀ e ∈ es, ∃ k', e.key = fk k') → pureV P (Instr.findKey kt (fk k) es) = some (fnd eqv es 0)
  bits : ∀ k, Instr.sameBits 10000 (fk k) (fk k) = true
theorem KeyT.int {P : Program} {kt : TypeId} {kd : IntKind} (hu : P.underlying kt = some (.int kd)) : KeyT P kt (Value.int kd) := by
  refine ⟨fun b k => checkKey_int hu, fun k => ?_, fun k => ?_⟩
  · refine ⟨fun v => match v with | .int _ b => k == b | _ => false, fun k' => by simp [BEq.beq, Bool.beq_eq_decide_eq], fun es h => findKey_now hu fun e he => ?_⟩
    obtain ⟨k', e1⟩ := h e he
    rw [e1]
    simp [Instr.sameNow]
  · cases kd <;> simp [Instr.sameBits]
theorem ba_beq (a b : ByteArray) : (a == b) = decide (a = b) := by
  have h : (a == b) = (a.data == b.data) := by cases a; cases b; rfl
  rw [h, Bool.eq_iff_iff]
  simp only [beq_iff_eq, decide_eq_true_eq]
  exact ⟨fun h => by cases a; cases b; cases h; rfl, fun h => by rw [h]⟩
theorem KeyT.string {P : Program} {kt : TypeId} (hu : P.underlying kt = some .string) : KeyT P kt Value.string := by
  refine ⟨fun b k => checkKey_string hu, fun k => ?_, fun k => ?_⟩
  · refine ⟨fun v => match v with | .string b => k == b | _ => false, fun k' => ba_beq k k', fun es h => findKey_now hu fun e he => ?_⟩
    obtain ⟨k', e1⟩ := h e he
    rw [e1]
    simp [Instr.sameNow]
  · simp [Instr.sameBits, ba_beq]
/-- A map: its entries, in the order in which they came. -/
def mp {κ ν : Type} (fk : κ → Value) (fv : ν → Value) (r : Nat) (m : List (κ × ν)) : HP := fun h => ∃ (es : Array MapEntry) (clk : Nat), h r = some (.map es clk) ∧
  es.toList.map (fun e => (e.key, e.val)) = m.map (fun x => (fk x.1, fv x.2)) ∧ (es.toList.map (·.born)).Nodup ∧ ∀ e ∈ es.toList, e.born < clk
section
variable {P : Program} {H : Heap} {κ ν : Type} [DecidableEq κ] {fk : κ → Value} {fv : ν → Value} {kt : TypeId} {r : Nat} {m : List (κ × ν)} {l : List HP}
theorem fnd_mget {eqv : Value → Bool} {k : κ} (hq : ∀ k', eqv (fk k') = decide (k = k')) : ∀ (es : List MapEntry) (m : List (κ × ν)) (i : Nat), es.map (fun e => (e.key, e.val)) = m.map (fun x => (fk x.1, fv x.2)) →
    (mget m k = none ∧ fnd eqv es i = none) ∨ ∃ j v e, mget m k = some v ∧ fnd eqv es i = some (i + j, fv v) ∧ m[j]? = some (k, v) ∧ es[j]? = some e ∧ e.key = fk k
  | [], [], i, h => .inl ⟨rfl, rfl⟩
  | [], _ :: _, i, h => by simp at h
  | _ :: _, [], i, h => by simp at h
  | e :: es, (a, v) :: m, i, h => by
    simp only [List.map_cons, List.cons.injEq, Prod.mk.injEq] at h
    obtain ⟨⟨h1, h2⟩, h3⟩ := h
    unfold mget fnd
    rw [h1, hq]
    by_cases hk : k = a
    · subst hk
      right
      exact ⟨0, v, e, by simp, by simp [h2], by simp, by simp, h1⟩
    · rw [if_neg hk, if_neg (by simpa using hk)]
      rcases fnd_mget hq es m (i + 1) h3 with h4 | ⟨j, w, e', h4, h5, h6, h7, h8⟩
      · exact .inl h4
      · exact .inr ⟨j + 1, w, e', h4, by rw [h5]; congr 2; omega, by simpa using h6, by simpa using h7, h8⟩
theorem mset_none {k : κ} {v : ν} : ∀ {m : List (κ × ν)}, mget m k = none → mset m k v = m ++ [(k, v)]
  | [], _ => rfl
  | (a, w) :: m, h => by
    unfold mget at h
    unfold mset
    split at h
    · cases h
    · rename_i hk; rw [if_neg hk, mset_none h]; rfl
theorem mget_at {k : κ} {v : ν} : ∀ {m : List (κ × ν)}, mget m k = some v → ∃ j, m[j]? = some (k, v) ∧ (∀ w, mset m k w = m.set j (k, w)) ∧ mdel m k = m.eraseIdx j ∧ ∀ i x, i < j → m[i]? = some x → x.1 ≠ k
  | [], h => by cases h
  | (a, u) :: m, h => by
    unfold mget at h
    split at h
    · rename_i hk
      subst hk
      cases h
      exact ⟨0, rfl, fun w => by simp [mset], by simp [mdel], fun i x hi => by omega⟩
    · rename_i hk
      obtain ⟨j, h1, h2, h3, h4⟩ := mget_at h
      refine ⟨j + 1, by simpa using h1, fun w => by simp [mset, hk, h2], by simp [mdel, hk, h3], ?_⟩
      intro i x hi hx
      cases i with
      | zero => simp at hx; subst hx; exact fun e => hk e.symm
      | succ i => exact h4 i x (by omega) (by simpa using hx)
theorem fnd_mget_at {eqv : Value → Bool} {k : κ} (hq : ∀ k', eqv (fk k') = decide (k = k')) (es : List MapEntry) (m : List (κ × ν)) (h : es.map (fun e => (e.key, e.val)) = m.map (fun x => (fk x.1, fv x.2))) :
    (mget m k = none ∧ fnd eqv es 0 = none) ∨ ∃ j v e, mget m k = some v ∧ fnd eqv es 0 = some (j, fv v) ∧ m[j]? = some (k, v) ∧ es[j]? = some e ∧ e.key = fk k := by
  rcases fnd_mget hq es m 0 h with h | ⟨j, v, e, h1, h2, h3⟩
  · exact .inl h
  · exact .inr ⟨j, v, e, h1, by rw [h2, Nat.zero_add], h3⟩
theorem fnd_idx {eqv : Value → Bool} {k : κ} (hq : ∀ k', eqv (fk k') = decide (k = k')) : ∀ (es : List MapEntry) (m : List (κ × ν)) (i j : Nat) (x : Value), es.map (fun e => (e.key, e.val)) = m.map (fun x => (fk x.1, fv x.2)) → fnd eqv es i = some (i + j, x) →
    (∀ w, mset m k w = m.set j (k, w)) ∧ mdel m k = m.eraseIdx j
  | [], _, i, j, x, _, h => by cases h
  | e :: es, [], i, j, x, h, _ => by simp at h
  | e :: es, (a, u) :: m, i, j, x, h, hf => by
    simp only [List.map_cons, List.cons.injEq, Prod.mk.injEq] at h
    obtain ⟨⟨h1, h2⟩, h3⟩ := h
    unfold fnd at hf
    rw [h1, hq] at hf
    by_cases hk : k = a
    · subst hk
      simp at hf
      have : j = 0 := by omega
      subst this
      exact ⟨fun w => by simp [mset], by simp [mdel]⟩
    · rw [if_neg (by simpa using hk)] at hf
      cases j with
      | zero =>
        exfalso
        have key : ∀ (es : List MapEntry) (i : Nat) (p : Nat × Value), fnd eqv es i = some p → i ≤ p.1 := by
          intro es
          induction es with
          | nil => intro i p h; cases h
          | cons e es ih =>
            intro i p h
            unfold fnd at h
            split at h
            · cases h; exact Nat.le_refl _
            · exact Nat.le_trans (Nat.le_succ i) (ih (i + 1) p h)
        have := key es (i + 1) _ hf
        simp at this
        omega
      | succ j =>
        obtain ⟨h4, h5⟩ := fnd_idx hq es m (i + 1) j x h3 (by rw [hf]; congr 2; omega)
        exact ⟨fun w => by simp [mset, hk, h4], by simp [mdel, hk, h5]⟩
theorem mp_keys {es : List MapEntry} {m : List (κ × ν)} (h : es.map (fun e => (e.key, e.val)) = m.map (fun x => (fk x.1, fv x.2))) : ∀ e ∈ es, ∃ k', e.key = fk k' := by
  intro e he
  have : (e.key, e.val) ∈ es.map (fun e => (e.key, e.val)) := List.mem_map_of_mem he
  rw [h] at this
  obtain ⟨x, _, hx⟩ := List.mem_map.1 this
  exact ⟨x.1, by injection hx with a b; exact a.symm⟩
theorem map_erase {α β : Type} (f : α → β) : ∀ (l : List α) (j : Nat), (l.eraseIdx j).map f = (l.map f).eraseIdx j
  | [], j => by simp
  | a :: l, 0 => by simp
  | a :: l, j + 1 => by simp [map_erase f l j]
/-- A map's type: of keys, of elements, their zero. -/
class MapT (P : Program) (t : TypeId) {κ ν : Type} [DecidableEq κ] (fk : κ → Value) (fv : ν → Value) (z : outParam Value) : Prop where
  out : ∃ kt et, P.underlying t = some (.map kt et) ∧ KeyT P kt fk ∧ pureV P (zeroValue et) = some z
class EncV {α : Type} (f : α → Value) (x : Value) (y : outParam α) : Prop where
  out : f y = x
instance {kd : IntKind} {n : Int} : EncV (Value.int kd) (.int kd n) n := ⟨rfl⟩
instance {s : ByteArray} : EncV Value.string (.string s) s := ⟨rfl⟩
instance {s : Bool} : EncV Value.bool (.bool s) s := ⟨rfl⟩
instance {s : Option Addr} : EncV Value.pointer (.pointer s) s := ⟨rfl⟩
class MpAt (r : Nat) (l : List HP) (c : outParam HP) : Prop where
  out : c ∈ l
instance (priority := 2000) MpAt.here {κ ν : Type} {fk : κ → Value} {fv : ν → Value} {r : Nat} {m : List (κ × ν)} {l : List HP} : MpAt r (mp fk fv r m :: l) (mp fk fv r m) := ⟨List.mem_cons_self ..⟩
instance (priority := 1000) MpAt.there {r : Nat} {c d : HP} {l : List HP} [h : MpAt r l c] : MpAt r (d :: l) c := ⟨List.mem_cons_of_mem _ h.out⟩
class MpSel (r : Nat) (c' : HP) (l : List HP) (c : outParam HP) (l' : outParam (List HP)) : Prop where
  out : ∃ m, Sel c l m ∧ Sel c' l' m
instance (priority := 2000) MpSel.here {κ ν : Type} {fk : κ → Value} {fv : ν → Value} {r : Nat} {m : List (κ × ν)} {l : List HP} {c' : HP} : MpSel r c' (mp fk fv r m :: l) (mp fk fv r m) (c' :: l) := ⟨l, .here, .here⟩
instance (priority := 1000) MpSel.there {r : Nat} {c c' d : HP} {l l' : List HP} [h : MpSel r c' l c l'] : MpSel r c' (d :: l) c (d :: l') := by
  obtain ⟨m, a, b⟩ := h.out
  exact ⟨d :: m, a.there, b.there⟩
variable {Q : List PanicEntry → Heap → Prop} {t : TypeId} {z : Value}
theorem Sat.lookup (S : Sat H l) (hm : mp fk fv r m ∈ l) (T : MapT P t fk fv z) (k : κ) {ok : Bool} {K : Value → Heap → Prop} (h1 : ∀ v, mget m k = some v → K (if ok then .tuple #[fv v, .bool true] else fv v) H) (h2 : mget m k = none → K (if ok then .tuple #[z, .bool false] else z) H) :
    valD P (Instr.lookup t (.map (some r)) (fk k) ok) H Q K := by
  obtain ⟨kt, et, hu, KT, hz⟩ := T.out
  obtain ⟨h, ⟨es, clk, hb, he, _, _⟩, hs⟩ := S.mem hm
  obtain ⟨eqv, hq, hf⟩ := KT.find k
  refine lookupD hu (hs _ _ hb) (KT.chk _ k) (hf es.toList (mp_keys he)) hz ?_
  rcases fnd_mget_at hq es.toList m he with ⟨h3, h4⟩ | ⟨j, v, e, h3, h4, _⟩
  · rw [h4]; exact h2 h3
  · rw [h4]; exact h1 v h3
instance {k : κ} {kv : Value} {K : Value → Heap → Prop} [S : Sat H l] [M : MpAt r l (mp fk fv r m)] [E : EncV fk kv k] [T : MapT P t fk fv z] : Step (valD P (Instr.lookup t (.map (some r)) kv true) H Q K) (Duo (∀ v, mget m k = some v → K (.tuple ⟨[fv v, .bool true]⟩) H) (mget m k = none → K (.tuple ⟨[z, .bool false]⟩) H)) :=
  ⟨fun h => by rw [← E.out]; exact S.lookup M.out T k h.1 h.2⟩
instance {k : κ} {kv : Value} {K : Value → Heap → Prop} [S : Sat H l] [M : MpAt r l (mp fk fv r m)] [E : EncV fk kv k] [T : MapT P t fk fv z] : Step (valD P (Instr.lookup t (.map (some r)) kv false) H Q K) (Duo (∀ v, mget m k = some v → K (fv v) H) (mget m k = none → K z H)) :=
  ⟨fun h => by rw [← E.out]; exact S.lookup M.out T k h.1 h.2⟩
instance {u : TypeId} {K : Value → Heap → Prop} [S : Sat H l] [M : MpAt r l (mp fk fv r m)] [T : MapT P t fk fv z] : Step (valD P (Builtin.len_ #[t] u ⟨[.map (some r)]⟩) H Q K) (K (.int .i64 (m.length : Int)) H) := ⟨fun h => by
  obtain ⟨kt, et, hu, KT, hz⟩ := T.out
  obtain ⟨h', ⟨es, clk, hb, he, _, _⟩, hs⟩ := S.mem M.out
  refine mapLen (t := t) rfl hu (hs _ _ hb) ?_
  have := congrArg List.length he
  simp at this
  rw [this]; exact h⟩
theorem Sat.mpNew (S : Sat H (pt r (.map #[] 0) :: l)) (fk : κ → Value) (fv : ν → Value) : Sat H (mp fk fv r [] :: l) := S.to (Ent.first fun k hk => ⟨#[], 0, hk, rfl, by simp, by simp⟩)
theorem Sat.mpSet (S : Sat H (mp fk fv r m :: l)) (T : MapT P t fk fv z) (k : κ) (v : ν) {K : Heap → Prop} (h : ∀ H1, Sat H1 (mp fk fv r (mset m k v) :: l) → K H1) : uniD P (Instr.mapUpdate t (.map (some r)) (fk k) (fv v)) H Q K := by
  obtain ⟨kt, et, hu, KT, hz⟩ := T.out
  obtain ⟨h', ⟨es, clk, hb, he, hn, hlt⟩, hs, x⟩ := S.out
  have hb' : H[r]? = some (.map es clk) := hs _ _ hb
  obtain ⟨eqv, hq, hf⟩ := KT.find k
  have upd : ∀ o, Upd r o H (H.setIfInBounds r o) := fun o => ⟨by simp, fun b _ hne => by rw [Array.getElem?_setIfInBounds_ne (Ne.symm hne)], by rw [Array.getElem?_setIfInBounds]; simp [block_lt hb']⟩
  have sat : ∀ (es' : Array MapEntry) (clk' : Nat) (m' : List (κ × ν)), es'.toList.map (fun e => (e.key, e.val)) = m'.map (fun x => (fk x.1, fv x.2)) → (es'.toList.map (·.born)).Nodup → (∀ e ∈ es'.toList, e.born < clk') → Sat (H.setIfInBounds r (.map es' clk')) (mp fk fv r m' :: l) := by
    intro es' clk' m' a b c
    have S1 : Sat H (pt r (.map es clk) :: l) := ⟨⟨h', hb, hs, x⟩⟩
    exact (S1.upd (upd _)).to (Ent.first fun k hk => ⟨es', clk', hk, a, b, c⟩)
  rcases fnd_mget_at hq es.toList m he with ⟨h3, h4⟩ | ⟨j, w, e, h3, h4, h5, h6, h7⟩
  · refine mapPut_new hu hb' (KT.chk _ k) (hf es.toList (mp_keys he)) h4 (h _ (sat _ _ _ ?_ ?_ ?_))
    · rw [mset_none h3]; simp [he]
    · simp only [Array.toList_push, List.map_append, List.map_cons, List.map_nil]
      rw [List.nodup_append]
      refine ⟨hn, by simp, ?_⟩
      intro a ha b hb
      simp at hb ha
      obtain ⟨e, he1, rfl⟩ := ha
      have := hlt e (by simpa using he1)
      omega
    · intro e he1
      simp at he1
      rcases he1 with he1 | rfl
      · have := hlt e (by simpa using he1); omega
      · simp
  · have hj := fnd_idx hq es.toList m 0 j (fv w) he (by rw [h4, Nat.zero_add])
    refine mapPut_old (e := e) hu hb' (KT.chk _ k) (hf es.toList (mp_keys he)) h4 (by simpa using h6) (by rw [h7]; exact KT.bits k) (h _ (sat _ _ _ ?_ ?_ ?_))
    · rw [hj.1]
      have hl := congrArg (fun q => List.set q j (fk k, fv v)) he
      rw [List.map_set]
      refine Eq.trans ?_ hl
      refine List.ext_getElem? fun i => ?_
      simp only [Array.toList_modify, List.getElem?_map, List.getElem?_modify, List.getElem?_set]
      by_cases hi : j = i
      · subst hi
        rw [h6]
        have hjl : j < es.toList.length := by
          rcases Nat.lt_or_ge j es.toList.length with h | h
          · exact h
          · rw [List.getElem?_eq_none h] at h6; cases h6
        simp [hjl]
        simpa using hjl
      · simp [hi]
    · have : (es.modify j fun e => { e with key := fk k, val := fv v }).toList.map (·.born) = es.toList.map (·.born) := by
        refine List.ext_getElem? fun i => ?_
        simp only [Array.toList_modify, List.getElem?_map, List.getElem?_modify]
        by_cases hi : j = i <;> cases es.toList[i]? <;> simp [hi]
      rw [this]; exact hn
    · intro e he1
      obtain ⟨i, hi⟩ := List.getElem?_of_mem he1
      simp only [Array.toList_modify, List.getElem?_modify] at hi
      cases h8 : es.toList[i]? with
      | none => rw [h8] at hi; simp at hi
      | some e0 =>
        rw [h8] at hi
        have hb0 := hlt e0 (List.mem_of_getElem? h8)
        simp at hi
        split at hi <;> (subst hi; exact hb0)
instance {k : κ} {kv vv : Value} {v : ν} {l' : List HP} {K : Heap → Prop} [S : Sat H l] [M : MpAt r l (mp fk fv r m)] [E : EncV fk kv k] [F : EncV fv vv v] [T : MapT P t fk fv z] [U : MpSel r (mp fk fv r (mset m k v)) l (mp fk fv r m) l'] : Step (uniD P (Instr.mapUpdate t (.map (some r)) kv vv) H Q K) (∀ H1, Sat H1 l' → K H1) :=
  ⟨fun h => by
    rw [← E.out, ← F.out]
    obtain ⟨n, a, b⟩ := U.out
    exact (S.bring a).mpSet T k v fun H1 S1 => h H1 (S1.to fun k x => SatP.perm b.perm.symm x)⟩
theorem Sat.mpDel (S : Sat H (mp fk fv r m :: l)) (T : MapT P t fk fv z) (k : κ) {ts : Array TypeId} (ht : ts[0]? = some t) {u : TypeId} {K : Value → Heap → Prop} (h : ∀ H1, Sat H1 (mp fk fv r (mdel m k) :: l) → K (.tuple #[]) H1) : valD P (Builtin.delete_ ts u ⟨[.map (some r), fk k]⟩) H Q K := by
  obtain ⟨kt, et, hu, KT, hz⟩ := T.out
  obtain ⟨h', ⟨es, clk, hb, he, hn, hlt⟩, hs, x⟩ := S.out
  have hb' : H[r]? = some (.map es clk) := hs _ _ hb
  obtain ⟨eqv, hq, hf⟩ := KT.find k
  have upd : ∀ o, Upd r o H (H.setIfInBounds r o) := fun o => ⟨by simp, fun b _ hne => by rw [Array.getElem?_setIfInBounds_ne (Ne.symm hne)], by rw [Array.getElem?_setIfInBounds]; simp [block_lt hb']⟩
  have sat : ∀ (es' : Array MapEntry) (clk' : Nat) (m' : List (κ × ν)), es'.toList.map (fun e => (e.key, e.val)) = m'.map (fun x => (fk x.1, fv x.2)) → (es'.toList.map (·.born)).Nodup → (∀ e ∈ es'.toList, e.born < clk') → Sat (H.setIfInBounds r (.map es' clk')) (mp fk fv r m' :: l) := by
    intro es' clk' m' a b c
    have S1 : Sat H (pt r (.map es clk) :: l) := ⟨⟨h', hb, hs, x⟩⟩
    exact (S1.upd (upd _)).to (Ent.first fun k hk => ⟨es', clk', hk, a, b, c⟩)
  refine ⟨?_⟩
  unfold Builtin.delete_
  have h0 : (⟨[Value.map (some r), fk k]⟩ : Array Value)[0]? = some (.map (some r)) := rfl
  have h1 : (⟨[Value.map (some r), fk k]⟩ : Array Value)[1]? = some (fk k) := rfl
  rw [ht, h0, h1]
  dsimp only
  rw [SemH_bind]
  refine semH_of_pure (pureV_underlying hu) ?_
  dsimp only
  rw [SemH_bind, SemH_getObj]
  refine ⟨_, hb', rfl, ?_⟩
  dsimp only
  rw [SemH_bind]
  refine semH_of_pure (KT.chk _ k) ?_
  rw [SemH_bind]
  refine semH_of_pure (hf es.toList (mp_keys he)) ?_
  rcases fnd_mget_at hq es.toList m he with ⟨h3, h4⟩ | ⟨j, w, e, h3, h4, h5, h6, h7⟩
  · rw [h4]
    refine ⟨_, hb', rfl, ?_⟩
    refine h _ (sat _ _ _ ?_ hn hlt)
    rw [he]
    congr 1
    have : ∀ (m : List (κ × ν)), mget m k = none → mdel m k = m := by
      intro m
      induction m with
      | nil => intro _; rfl
      | cons x m ih =>
        obtain ⟨a, b⟩ := x
        intro hh
        unfold mget at hh
        unfold mdel
        split at hh
        · cases hh
        · rename_i hk; rw [if_neg hk, ih hh]
    exact (this m h3).symm
  · have hj := fnd_idx hq es.toList m 0 j (fv w) he (by rw [h4, Nat.zero_add])
    rw [h4]
    refine ⟨_, hb', rfl, ?_⟩
    have el : (es.eraseIdxIfInBounds j).toList = es.toList.eraseIdx j := by
      unfold Array.eraseIdxIfInBounds
      split
      · simp
      · rename_i hh; rw [List.eraseIdx_of_length_le (by simpa using hh)]
    refine h _ (sat _ _ _ ?_ ?_ ?_)
    · rw [hj.2, el, map_erase, he, ← map_erase]
    · rw [el, map_erase]; exact hn.sublist (List.eraseIdx_sublist ..)
    · intro e he1; rw [el] at he1; exact hlt e (List.mem_of_mem_eraseIdx he1)
instance {k : κ} {kv : Value} {u w : TypeId} {l' : List HP} {K : Value → Heap → Prop} [S : Sat H l] [M : MpAt r l (mp fk fv r m)] [E : EncV fk kv k] [T : MapT P t fk fv z] [U : MpSel r (mp fk fv r (mdel m k)) l (mp fk fv r m) l'] : Step (valD P (Builtin.delete_ #[t, w] u ⟨[.map (some r), kv]⟩) H Q K) (∀ H1, Sat H1 l' → K (.tuple ⟨[]⟩) H1) :=
  ⟨fun h => by
    rw [← E.out]
    obtain ⟨n, a, b⟩ := U.out
    exact (S.bring a).mpDel T k rfl fun H1 S1 => h H1 (S1.to fun k x => SatP.perm b.perm.symm x)⟩
end
end Go.Den
namespace Go.Den
open Go
/-- A method of a slice type, called through a pointer to a slice. -/
theorem callI_sl {P : Program} {H : Heap} {t e u : TypeId} {a : Addr} {name : String} {f : FuncId} {args : List Value} {Q : List PanicEntry → Heap → Prop} {K : Value → Heap → Prop} (hm : mthOk P t name f false = true) (hp : P.underlying t = some (.pointer e)) (he : P.underlying e = some (.slice u)) (hf : fnOk P f = true)
    (k : ldSl H a fun p n c => callD P f (.slice p n c :: args) H Q K) : callI P (.iface t (.pointer (some a))) name args H Q K := by
  refine callI_at hm hp hf ?_
  unfold ldD
  rw [he]
  obtain ⟨p, n, c, h1, h2⟩ := k
  exact ⟨p, n, c, h1, h2⟩
end Go.Den
namespace Go.Den
open Go
theorem wr64 {i : Int} (h0 : -9223372036854775808 ≤ i) (h1 : i < 9223372036854775808) : IntKind.wrap .i64 i = i := by
  show (if (true && decide (i % 18446744073709551616 ≥ 9223372036854775808)) = true then i % 18446744073709551616 - 18446744073709551616 else i % 18446744073709551616) = i
  split
  · rename_i h; simp at h; omega
  · rename_i h; simp at h; omega
theorem wr32 {i : Int} (h0 : -2147483648 ≤ i) (h1 : i < 2147483648) : IntKind.wrap .i32 i = i := by
  show (if (true && decide (i % 4294967296 ≥ 2147483648)) = true then i % 4294967296 - 4294967296 else i % 4294967296) = i
  split
  · rename_i h; simp at h; omega
  · rename_i h; simp at h; omega
theorem wrU64 {i : Int} (h0 : 0 ≤ i) (h1 : i < 18446744073709551616) : IntKind.wrap .u64 i = i := by
  show (if (false && decide (i % 18446744073709551616 ≥ 9223372036854775808)) = true then i % 18446744073709551616 - 18446744073709551616 else i % 18446744073709551616) = i
  simp; omega
theorem wrU32 {i : Int} (h0 : 0 ≤ i) (h1 : i < 4294967296) : IntKind.wrap .u32 i = i := by
  show (if (false && decide (i % 4294967296 ≥ 2147483648)) = true then i % 4294967296 - 4294967296 else i % 4294967296) = i
  simp; omega
theorem wrU8 {i : Int} (h0 : 0 ≤ i) (h1 : i < 256) : IntKind.wrap .u8 i = i := by
  show (if (false && decide (i % 256 ≥ 128)) = true then i % 256 - 256 else i % 256) = i
  simp; omega
theorem lt_of {α : Type} {l : List α} {i : Nat} {x : α} (h : l[i]? = some x) : i < l.length := by
  rcases Nat.lt_or_ge i l.length with h1 | h1
  · exact h1
  · rw [List.getElem?_eq_none h1] at h; cases h
theorem get_of {α : Type} {l : List α} {i : Nat} (h : i < l.length) : ∃ x, l[i]? = some x := ⟨_, List.getElem?_eq_getElem h⟩
end Go.Den
namespace Go.Den
open Go
/-- What was there at first is there as it was. -/
theorem Sat.grown {H0 H : Heap} {l r : List HP} [S : Sat H l] [T : Take (Den.old H0) l r] : ExtH H0 H := S.old (T.out.perm.mem_iff.2 (List.mem_cons_self ..))
/-- What a call gives back that changes nothing. -/
theorem gives_i {P : Program} {f : FuncId} {args : List Value} {H : Heap} {v : Value} {Q : List PanicEntry → Heap → Prop} {K : Value → Heap → Prop} {l : List HP} (S : Sat H l) (hc : CallsH P f ⟨args⟩ H (Gives v H)) (k : ∀ H1, ExtH H H1 → Sat H1 l → K v H1) : callD P f args H Q K :=
  CallsH.mono hc fun e H1 ⟨he, hx⟩ => by subst he; exact k H1 hx (S.ext hx)
end Go.Den
namespace Go.Den
open Go
/-! ### Records that came in -/
class OldAt (l : List HP) (H0 : outParam Heap) : Prop where
  out : Den.old H0 ∈ l
instance (priority := 2000) OldAt.here {H0 : Heap} {l : List HP} : OldAt (Den.old H0 :: l) H0 := ⟨List.mem_cons_self ..⟩
instance (priority := 1000) OldAt.there {H0 : Heap} {c : HP} {l : List HP} [h : OldAt l H0] : OldAt (c :: l) H0 := ⟨List.mem_cons_of_mem _ h.out⟩
/-- Records lie in a row in the heap that was there at first. -/
class RowsC (H0 : Heap) (p : Option Addr) {α : outParam Type} (f : outParam (α → List Value)) (z : outParam Nat) (xs : outParam (List α)) : Prop where
  out : RowsAt f z H0 p xs
section
variable {α : Type} {f : α → List Value} {z : Nat} {xs : List α} {H H0 : Heap} {l : List HP} {A a : Addr} {i : Int} {j : Nat} {x : α}
theorem RowsC.idx {p : Option Addr} {n : Nat} {k : Addr → Prop} (R : RowsC H0 p f z xs) (hn : xs.length = n) (h : 0 ≤ i ∧ i < n ∧ ∀ a, p = some a → k a) : idxD p n i k := by
  obtain ⟨h0, h1, h2⟩ := h
  rcases R.out with h3 | ⟨a, rfl, _⟩
  · subst h3; simp at hn; omega
  · exact ⟨h0, h1, h2 a rfl⟩
theorem row_cell {v : Value} (S : Sat H l) (L : Elt A a i z j) (O : OldAt l H0) (R : RowsC H0 (some a) f z xs) (X : HasI xs i x) (N : Nth (f x) j v) : hcell H A = some v := by
  refine (S.old O.out).cell ?_
  rcases R.out with h3 | ⟨a', he, h⟩
  · subst h3; have := X.out; simp at this
  · cases he
    rw [L.out, ← add_add']
    exact h _ _ X.out _ _ N.out
instance (priority := 900) {kd : IntKind} {k : Int} {K : Int → Prop} [S : Sat H l] [L : Elt A a i z j] [O : OldAt l H0] [R : RowsC H0 (some a) f z xs] [X : HasI xs i x] [N : Nth (f x) j (.int kd k)] : Step (ldInt H A kd K) (K k) := ⟨fun h => ⟨_, row_cell S L O R X N, h⟩⟩
instance (priority := 900) {k : Bool} {K : Bool → Prop} [S : Sat H l] [L : Elt A a i z j] [O : OldAt l H0] [R : RowsC H0 (some a) f z xs] [X : HasI xs i x] [N : Nth (f x) j (.bool k)] : Step (ldBool H A K) (K k) := ⟨fun h => ⟨_, row_cell S L O R X N, h⟩⟩
instance (priority := 900) {k : ByteArray} {K : ByteArray → Prop} [S : Sat H l] [L : Elt A a i z j] [O : OldAt l H0] [R : RowsC H0 (some a) f z xs] [X : HasI xs i x] [N : Nth (f x) j (.string k)] : Step (ldStr H A K) (K k) := ⟨fun h => ⟨_, row_cell S L O R X N, h⟩⟩
instance (priority := 900) {p : Option Addr} {u w : Nat} {K : Option Addr → Nat → Nat → Prop} [S : Sat H l] [L : Elt A a i z j] [O : OldAt l H0] [R : RowsC H0 (some a) f z xs] [X : HasI xs i x] [N : Nth (f x) j (.slice p u w)] : Step (ldSl H A K) (K p u w) := ⟨fun h => ⟨_, _, _, row_cell S L O R X N, h⟩⟩
end
theorem HasI.nat {α : Type} {xs : List α} {i : Nat} {x : α} (h : xs[i]? = some x) : HasI xs (i : Int) x := ⟨by simpa using h⟩
end Go.Den
namespace Go.Den
open Go
theorem perm_erase {α : Type} : ∀ {l : List α} {j : Nat} {x : α}, l[j]? = some x → l.Perm (x :: l.eraseIdx j)
  | [], j, x, h => by simp at h
  | a :: l, 0, x, h => by simp at h; subst h; simp
  | a :: l, j + 1, x, h => by
    have := perm_erase (l := l) (j := j) (x := x) (by simpa using h)
    simpa using (this.cons a).trans (.swap _ _ _)
end Go.Den
namespace Go.Den
theorem repZ_zero (zs : List Go.Value) : repZ zs 0 = [] := List.eq_nil_of_length_eq_zero (by rw [repZ_length]; simp)
end Go.Den

/- Calls that only make memory; memory that was there, but for one block; function values. -/
set_option linter.unusedVariables false
set_option linter.unusedSectionVars false
namespace Go.Den
open Go
section
variable {H H1 H0 : Heap} {l m : List HP} {c : HP}
theorem of_sub_old {h : PH} (a : Den.old H h) : PH.sub (PH.of H) h := fun b o x => a b o x
theorem onto_aux : ∀ {m : List HP} {k : PH}, SatP k (m ++ [Den.old H]) → SatP (PH.of H) l → SatP k (m ++ l)
  | [], k, ⟨h, h1, h2, _⟩, x => (x.mono (of_sub_old h1)).mono h2
  | c :: m, k, ⟨h, h1, h2, y⟩, x => ⟨h, h1, h2, onto_aux (m := m) y x⟩
/-- What was made over a heap as it was, over what is known of that heap. -/
theorem Sat.onto {m : List HP} (S1 : Sat H1 (m ++ [Den.old H])) (S : Sat H l) : Sat H1 (m ++ l) := ⟨onto_aux S1.out S.out⟩
theorem Sat.ext_of {m : List HP} (S1 : Sat H1 (m ++ [Den.old H])) : ExtH H H1 := S1.old (by simp)
theorem Sat.rowsAt {α : Type} {f : α → List Value} {E : TypeId} {z n k : Nat} {p : Option Addr} {xs : List α} (S : Sat H l) (hm : sl f E z p n k xs ∈ l) : RowsAt f z H p xs := by
  cases p with
  | none =>
    obtain ⟨h, ⟨a1, _, a3, a4⟩, _⟩ := S.mem hm
    rcases a4 with ⟨_, h0⟩ | ⟨r, pre, sp, he, _⟩
    · left; exact List.eq_nil_of_length_eq_zero (by omega)
    · cases he
  | some a =>
    refine .inr ⟨a, rfl, fun i x hi j v hj => ?_⟩
    rw [add_add']
    exact S.slCell hm hi hj
/-- A heap's blocks, but for one. -/
def oldX (b : Nat) (H0 : Heap) : HP := fun h => ∀ i o, i ≠ b → H0[i]? = some o → h i = some o
theorem Sat.startX {b : Nat} {o : Obj} (h : H[b]? = some o) : Sat H [pt b o, oldX b H] := by
  refine ⟨fun i => if i = b then some o else none, if_pos rfl, ?_, PH.minus (PH.of H) (fun i => if i = b then some o else none), ?_, PH.sub.refl, trivial⟩
  · intro i x e
    dsimp only at e
    by_cases hi : i = b
    · subst hi; rw [if_pos rfl] at e; cases e; exact h
    · rw [if_neg hi] at e; cases e
  · intro i x hi e
    rw [PH.minus_none (if_neg hi)]; exact e
theorem Sat.xBlock {b i : Nat} {o : Obj} (S : Sat H l) (hm : oldX b H0 ∈ l) (hi : i ≠ b) (h : H0[i]? = some o) : H[i]? = some o := by
  obtain ⟨g, h1, h2⟩ := S.mem hm
  exact h2 _ _ (h1 i o hi h)
theorem Sat.xUpd {b : Nat} {o : Obj} (S : Sat H1 l) (hm : oldX b H ∈ l) (hb : pt b o ∈ l) : Upd b o H H1 := by
  have hs : H.size ≤ H1.size := by
    rcases Nat.lt_or_ge H1.size H.size with hlt | hge
    · by_cases h : H1.size = b
      · have := block_lt (S.at_ hb); omega
      · have := block_lt (S.xBlock hm h (Array.getElem?_eq_getElem hlt)); omega
    · exact hge
  refine ⟨hs, fun i hi hn => ?_, S.at_ hb⟩
  rw [S.xBlock hm hn (Array.getElem?_eq_getElem hi), Array.getElem?_eq_getElem hi]
theorem atX {b i : Nat} {o : Obj} (hi : i ≠ b) (h : H0[i]? = some o) : ∀ l, At i o (oldX b H0 :: l) := fun l => ⟨fun k x => by
  obtain ⟨g, h1, h2, _⟩ := x
  exact h2 _ _ (h1 i o hi h)⟩
end
/-- A function value. -/
instance {P : Program} {H : Heap} {f : FuncId} {first cap : List Value} {args : List Value} {Q : List PanicEntry → Heap → Prop} {K : Value → Heap → Prop} : Step (callV P (.func (.func f) ⟨first⟩ ⟨cap⟩) args H Q K) (Duo (Clo (fnOk P f)) (callD P f (first ++ args ++ cap) H Q K)) := ⟨fun h => callV_i h.1.out h.2⟩
instance {P : Program} {H : Heap} {f : FuncId} {first cap : List Value} {args : List Value} {Q : List PanicEntry → Heap → Prop} {K : Value → Heap → Prop} : Step (callV P (FV.v (.mk (.func f) ⟨first⟩ ⟨cap⟩)) args H Q K) (Duo (Clo (fnOk P f)) (callD P f (first ++ args ++ cap) H Q K)) := ⟨fun h => callV_i h.1.out h.2⟩
/-- A call that only makes memory. -/
theorem grow_i {P : Program} {f : FuncId} {args : List Value} {H : Heap} {l : List HP} {ι : Type} {v : ι → Value} {m : ι → List HP} {Q : List PanicEntry → Heap → Prop} {K : Value → Heap → Prop} (S : Sat H l) (hc : CallsH P f ⟨args⟩ H (fun e H1 => ∃ x, e = .returned (v x) ∧ Sat H1 (m x ++ [Den.old H]))) (k : ∀ x H1, ExtH H H1 → Sat H1 (m x ++ l) → K (v x) H1) : callD P f args H Q K :=
  CallsH.mono hc fun e H1 ⟨x, he, S1⟩ => by subst he; exact k x H1 S1.ext_of (S1.onto S)
end Go.Den
namespace Go.Den
open Go
theorem Sat.onlyX {H H1 : Heap} {l m1 m2 : List HP} {b : Nat} {o : Obj} [S : Sat H1 l] [T1 : Take (oldX b H) l m1] [T2 : Take (pt b o) l m2] : Upd b o H H1 := S.xUpd (T1.out.perm.mem_iff.2 (List.mem_cons_self ..)) (T2.out.perm.mem_iff.2 (List.mem_cons_self ..))
theorem Sat.thereX {H H1 : Heap} {l m1 : List HP} {b i : Nat} {o : Obj} (S : Sat H1 l) [T1 : Take (oldX b H) l m1] (hi : i ≠ b) (h : H[i]? = some o) : H1[i]? = some o := S.xBlock (T1.out.perm.mem_iff.2 (List.mem_cons_self ..)) hi h
end Go.Den
namespace Go.Den
open Go
theorem Sat.obj {H : Heap} {l : List HP} (S : Sat H l) {r : Nat} {o : Obj} [A : At r o l] : H[r]? = some o := A.get S
end Go.Den
namespace Go.Den
open Go
def valT (P : Program) (t : TypeId) : Bool := match P.underlying t with | some (.pointer _) => false | some _ => true | none => false
/-- A method of a value that is no pointer. -/
theorem callI_val {P : Program} {H : Heap} {t : TypeId} {x : Value} {name : String} {f : FuncId} {args : List Value} {Q : List PanicEntry → Heap → Prop} {K : Value → Heap → Prop} (hm : mthOk P t name f false = true) (hp : valT P t = true) (hf : fnOk P f = true)
    (k : callD P f (x :: args) H Q K) : callI P (.iface t x) name args H Q K := by
  unfold valT at hp
  split at hp
  · cases hp
  · rename_i d hd hu
    exact callI_v hm hu (fun e h => hd e h) hf k
  · cases hp
end Go.Den
namespace Go.Den
open Go
/-- A block that a piece of its own holds is none of those that were there at first. -/
theorem Sat.fresh {H H0 : Heap} {l x y : List HP} {r : Nat} {o : Obj} (S : Sat H l) [T1 : Take (pt r o) l x] [T2 : Take (Den.old H0) x y] : H0.size ≤ r := by
  obtain ⟨h, a, b, c⟩ := SatP.perm T1.out.perm S.out
  obtain ⟨g, a', b', _⟩ := SatP.perm T2.out.perm c
  rcases Nat.lt_or_ge r H0.size with hlt | hge
  · exfalso
    have h1 := a' r _ (Array.getElem?_eq_getElem hlt)
    have h2 := b' _ _ h1
    rw [PH.minus_some (show h r = some o from a)] at h2
    cases h2
  · exact hge
end Go.Den
namespace Go.Den
open Go
theorem flat_of {α : Type} {f : α → List Value} {z : Nat} (hz : ∀ y, (f y).length = z) {v : Value} : ∀ {xs : List α} {k : Nat}, (xs.flatMap f)[k]? = some v → ∃ i x j, xs[i]? = some x ∧ (f x)[j]? = some v ∧ k = i * z + j := by
  intro xs
  induction xs with
  | nil => intro k h; simp at h
  | cons a xs ih =>
    intro k h
    rw [List.flatMap_cons] at h
    rcases Nat.lt_or_ge k (f a).length with h1 | h1
    · rw [List.getElem?_append_left h1] at h
      exact ⟨0, a, k, rfl, h, by omega⟩
    · rw [List.getElem?_append_right h1] at h
      obtain ⟨i, x, j, h2, h3, h4⟩ := ih h
      rw [hz] at h1 h4
      exact ⟨i + 1, x, j, h2, h3, by rw [Nat.succ_mul]; omega⟩
theorem RowsAt.cells {α : Type} {f : α → List Value} {z : Nat} {H : Heap} {q : Option Addr} {ys : List α} (h : RowsAt f z H q ys) (hz : ∀ y, (f y).length = z) : cellsAt H q (ys.flatMap f) := by
  intro k v hk
  obtain ⟨i, x, j, h2, h3, h4⟩ := flat_of hz hk
  rcases h with h | ⟨a, rfl, h⟩
  · subst h; simp at h2
  · exact ⟨a, rfl, by rw [h4, ← add_add']; exact h i x h2 j v h3⟩
/-- A copy of records behind nothing. -/
theorem dup_i {α : Type} {f : α → List Value} {z : Nat} {E : TypeId} {H : Heap} {l : List HP} {q : Option Addr} {ys : List α} {d bytes : Nat} {zs : List Value} {K : Option Addr → Nat → Nat → Heap → Prop} (S : Sat H l) (hR : RowsAt f z H q ys) (hd : ys.length = d) (hz : ∀ y, (f y).length = z) (hc : ∀ y, ∀ v ∈ f y, isCell v = true)
    (hzs : zs.length = z) (hb : bytes ≠ 0) (hs : (2 * d + 768) * bytes ≤ 2 ^ 48) (k : ∀ p' c' H1, ExtH H H1 → Sat H1 (sl f E z p' d c' ys :: l) → K p' d c' H1) : apD H z bytes zs E none 0 0 q d K := by
  have S1 : Sat H (sl f E z none 0 0 [] :: [Den.old H]) := (Sat.start H).to (.slNil .refl)
  refine S1.slApp (ys := ys) (hR.cells hz) hd (fun y _ => hz y) (fun v hv => ?_) hzs hb (by rw [Nat.zero_add]; exact hs) (fun p' c' H1 S2 => ?_)
  · obtain ⟨y, hy, hv⟩ := List.mem_flatMap.1 hv
    exact hc y v hv
  · rw [Nat.zero_add] at S2 ⊢
    rw [List.nil_append] at S2
    exact k p' c' H1 (Sat.ext_of (m := [sl f E z p' d c' ys]) S2) (Sat.onto (m := [sl f E z p' d c' ys]) S2 S)
end Go.Den

set_option linter.unusedVariables false
set_option linter.unusedSimpArgs false
/-! Ranges over maps: the map and its iterator, with what is still to come. -/
namespace Go.Den
open Go
/-- What a map has that the iterator has not had. -/
def unseen (es : Array MapEntry) (seen : Array Nat) : List MapEntry := es.toList.filter fun e => !seen.contains e.born
/-- The entries say the list. -/
structure MpF {κ ν : Type} (fk : κ → Value) (fv : ν → Value) (es : Array MapEntry) (clk : Nat) (m : List (κ × ν)) : Prop where
  eq : es.toList.map (fun e => (e.key, e.val)) = m.map (fun x => (fk x.1, fv x.2))
  nd : (es.toList.map (·.born)).Nodup
  lt : ∀ e ∈ es.toList, e.born < clk
section
variable {P : Program} {H : Heap} {κ ν : Type} {fk : κ → Value} {fv : ν → Value} {r ir : Nat} {m : List (κ × ν)} {l : List HP} {Q : List PanicEntry → Heap → Prop} {K : Value → Heap → Prop} {t : TypeId} {z : Value} {es : Array MapEntry} {clk : Nat} {seen : Array Nat}
theorem Sat.mpOpen (S : Sat H (mp fk fv r m :: l)) : ∃ es clk, MpF fk fv es clk m ∧ Sat H (pt r (.map es clk) :: l) := by
  obtain ⟨h', ⟨es, clk, hb, he, hn, hlt⟩, hs, x⟩ := S.out
  exact ⟨es, clk, ⟨he, hn, hlt⟩, ⟨⟨h', hb, hs, x⟩⟩⟩
theorem Ent.mpClose (F : MpF fk fv es clk m) : Ent (pt r (.map es clk) :: l) (mp fk fv r m :: l) := Ent.first fun k hk => ⟨es, clk, hk, F.eq, F.nd, F.lt⟩
theorem rangeNew {kt et : TypeId} (hu : P.underlying t = some (.map kt et)) (S : Sat H (pt r (.map es clk) :: l)) (h : ∀ ir H1, Sat H1 (pt ir (.mapIter (some r) clk #[] clk) :: pt r (.map es clk) :: l) → K (.pointer (some ⟨ir, 0, none⟩)) H1) : valD P (Instr.range t (.map (some r))) H Q K := by
  have hb' : H[r]? = some (.map es clk) := S.at_ (List.mem_cons_self ..)
  refine ⟨?_⟩
  unfold Instr.range
  rw [SemH_bind]
  refine semH_of_pure (pureV_underlying hu) ?_
  dsimp only
  rw [SemH_bind, SemH_getObj]
  refine ⟨_, hb', rfl, ?_⟩
  dsimp only
  show K (.pointer (some ⟨H.size, 0, none⟩)) (H.push (.mapIter (some r) clk #[] clk))
  exact h _ _ (S.push _)
theorem unseen_push (nd : (es.toList.map (·.born)).Nodup) {a b : List MapEntry} {e : MapEntry} (h : unseen es seen = a ++ e :: b) : unseen es (seen.push e.born) = a ++ b := by
  have e1 : unseen es (seen.push e.born) = (unseen es seen).filter fun x => !(x.born == e.born) := by
    unfold unseen
    rw [List.filter_filter]
    refine List.filter_congr fun x _ => ?_
    simp [Array.contains_push]
    exact Bool.and_comm _ _
  have hs : (unseen es seen).Sublist es.toList := List.filter_sublist
  have nd2 : ((unseen es seen).map (·.born)).Nodup := nd.sublist (hs.map _)
  rw [h] at nd2
  simp only [List.map_append, List.map_cons, List.nodup_append, List.nodup_cons, List.mem_map, List.mem_cons] at nd2
  obtain ⟨n1, ⟨n2, n3⟩, n4⟩ := nd2
  rw [e1, h, List.filter_append, List.filter_cons]
  have ha : a.filter (fun x => !(x.born == e.born)) = a := List.filter_eq_self.2 fun x hx => by
    have := n4 x.born ⟨x, hx, rfl⟩ e.born (.inl rfl)
    simp [this]
  have hb : b.filter (fun x => !(x.born == e.born)) = b := List.filter_eq_self.2 fun x hx => by
    have : x.born ≠ e.born := fun h => n2 ⟨x, hx, h⟩
    simp [this]
  rw [ha, hb]
  simp
theorem rangeNext {ty : TypeId} (F : MpF fk fv es clk m) (S : Sat H (pt ir (.mapIter (some r) clk seen clk) :: pt r (.map es clk) :: l)) (h1 : unseen es seen = [] → K (.tuple #[.bool false]) H)
    (h2 : ∀ a e b, unseen es seen = a ++ e :: b → unseen es (seen.push e.born) = a ++ b → ∀ H1, Sat H1 (pt ir (.mapIter (some r) clk (seen.push e.born) clk) :: pt r (.map es clk) :: l) → K (.tuple #[.bool true, e.key, e.val]) H1) :
    valD P (Instr.next (.pointer (some ⟨ir, 0, none⟩)) false ty) H Q K := by
  have hi : H[ir]? = some (.mapIter (some r) clk seen clk) := S.at_ (List.mem_cons_self ..)
  have hb : H[r]? = some (.map es clk) := S.at_ (List.mem_cons_of_mem _ (List.mem_cons_self ..))
  have upd : ∀ o, Upd ir o H (H.setIfInBounds ir o) := fun o => ⟨by simp, fun b _ hne => by rw [Array.getElem?_setIfInBounds_ne (Ne.symm hne)], by rw [Array.getElem?_setIfInBounds]; simp [block_lt hi]⟩
  have hold : ∀ A : Array MapEntry, (∀ e ∈ A.toList, e ∈ es.toList) → A.filter (fun e => decide (e.born < clk)) = A := by
    intro A hA
    refine Array.filter_eq_self.2 fun e he => ?_
    exact decide_eq_true (F.lt e (hA e (by simpa using he)))
  have hnew : ∀ A : Array MapEntry, (∀ e ∈ A.toList, e ∈ es.toList) → A.filter (fun e => decide (e.born ≥ clk)) = #[] := by
    intro A hA
    refine Array.filter_eq_empty_iff.2 fun e he => ?_
    have := F.lt e (hA e (by simpa using he))
    simp; omega
  have hf : (es.filter fun e => !seen.contains e.born).toList = unseen es seen := by unfold unseen; simp
  have hsub : ∀ e ∈ (es.filter fun e => !seen.contains e.born).toList, e ∈ es.toList := by
    intro e he; rw [hf] at he; exact (List.mem_filter.1 he).1
  refine ⟨?_⟩
  unfold Instr.next
  show SemH P (getObj ir >>= _) _ _ _
  rw [SemH_bind, SemH_getObj]
  refine ⟨_, hi, rfl, ?_⟩
  dsimp only
  rw [SemH_bind, SemH_getObj]
  refine ⟨_, hb, rfl, ?_⟩
  dsimp only
  rw [if_neg (by
    intro h
    simp only [Bool.and_eq_true, Bool.not_eq_true', Array.isEmpty_eq_false_iff] at h
    obtain ⟨⟨_, h3⟩, h4⟩ := h
    obtain ⟨e, he⟩ := Array.exists_mem_of_ne_empty es h3
    have h5 := Array.all_eq_true'.1 h4 e he
    have := F.lt e (by simpa using he)
    simp at h5; omega)]
  rw [hold _ hsub, hnew _ hsub, SemH_bind]
  intro u
  generalize hA : (es.filter fun e => !seen.contains e.born) = A at hf hsub
  simp only [Array.append_empty]
  generalize hC : (if A.isEmpty = true then #[none] else #[]) ++ Array.map some A = C
  generalize hu : (if (Question.mapNext C.size).forced = true then 0 else (Question.mapNext C.size).cut u) = i
  by_cases hE : A = #[]
  · subst hE
    have hC2 : C = #[none] := by rw [← hC]; simp
    subst hC2
    have hi0 : i = 0 := by rw [← hu]; rfl
    subst hi0
    exact h1 (by rw [← hf])
  · have hemp : A.isEmpty = false := by simpa using hE
    have hpos : 0 < A.size := Array.size_pos_iff.2 hE
    have hC2 : C = A.map some := by rw [← hC]; simp [hemp]
    subst hC2
    have hi2 : i < A.size := by
      rw [← hu]
      simp only [Array.size_map]
      show (if (decide (A.size ≤ 1)) = true then 0 else u % A.size) < A.size
      split
      · exact hpos
      · exact Nat.mod_lt _ hpos
    have he : (A.map some)[i]? = some (some A[i]) := by simp [hi2]
    show SemH P (match (A.map some)[i]? with
        | some (some e) => do
          setObj ir (Obj.mapIter (some r) clk (seen.push e.born) clk)
          pure (Value.tuple #[Value.bool true, e.key, e.val])
        | some none => pure (Value.tuple #[Value.bool false])
        | none => stuck "Next: no such candidate") H _ _
    rw [he]
    refine ⟨_, hi, rfl, ?_⟩
    have hl : unseen es seen = A.toList.take i ++ A[i] :: A.toList.drop (i + 1) := by
      rw [← hf]
      have h9 : A.toList.drop i = A[i] :: A.toList.drop (i + 1) := by
        rw [List.drop_eq_getElem_cons (by simpa using hi2)]; rfl
      rw [← h9, List.take_append_drop]
    exact h2 _ _ _ hl (unseen_push F.nd hl) _ (S.upd (upd _))
theorem rangeEntry {e : MapEntry} (F : MpF fk fv es clk m) (S : Sat H (pt ir (.mapIter (some r) clk (seen.push e.born) clk) :: pt r (.map es clk) :: l)) (he : e ∈ es.toList) (h : K (.tuple #[e.key, e.val]) H) :
    valD P (Instr.entry (.pointer (some ⟨ir, 0, none⟩))) H Q K := by
  have hi : H[ir]? = some (.mapIter (some r) clk (seen.push e.born) clk) := S.at_ (List.mem_cons_self ..)
  have hb : H[r]? = some (.map es clk) := S.at_ (List.mem_cons_of_mem _ (List.mem_cons_self ..))
  refine ⟨?_⟩
  unfold Instr.entry
  show SemH P (getObj ir >>= _) _ _ _
  rw [SemH_bind, SemH_getObj]
  refine ⟨_, hi, rfl, ?_⟩
  dsimp only
  rw [Array.back?_push]
  dsimp only
  rw [SemH_bind, SemH_getObj]
  refine ⟨_, hb, rfl, ?_⟩
  dsimp only
  rw [if_neg (by simp)]
  have hf : es.find? (fun x => x.born == e.born) = some e := by
    rw [← Array.find?_toList]
    have nd := F.nd
    generalize es.toList = L at he nd
    induction L with
    | nil => simp at he
    | cons a L ih =>
      simp only [List.map_cons, List.nodup_cons, List.mem_map, not_exists, not_and] at nd
      rw [List.find?_cons]
      rcases List.mem_cons.1 he with rfl | he
      · simp
      · have : a.born ≠ e.born := fun h => nd.1 e he h.symm
        have e1 : (a.born == e.born) = false := by simp [this]
        rw [e1]
        exact ih he nd.2
  rw [hf]
  exact h
end
end Go.Den

set_option linter.unusedVariables false
set_option linter.unusedSimpArgs false
set_option linter.unnecessarySimpa false
namespace Go.Den
open Go
/-! Functions without a text, interfaces compared, bytes read. -/
section
variable {P : Program} {H : Heap}
theorem callFunc_ext {f : FuncId} {fn : Func} {e : Array Value → Sem Value} {args : List Value} {v : Value} {Q : List PanicEntry → Heap → Prop} {K : Value → Heap → Prop} (hf : P.funcs[f]? = some fn) (hn : (fn.name == "runtime.NumGoroutine") = false) (hb : fn.body.isNone = true) (hx : Extern.findNext fn = none) (he : Extern.find fn = some e)
    (hr : readV P (e ⟨args⟩) H = some v) (hk : K v H) : callX P f args H Q K := by
  refine ⟨semH_of_read (a := Next.value v) ?_ (show nextH P K Q (.value v) H from hk)⟩
  have h1 : fn.name ≠ "runtime.NumGoroutine" := by simpa using hn
  have h2 : fn.body = none := by simpa using hb
  unfold callFunc
  show readV P (match P.funcs[f]? with | none => _ | some fn => _) H = _
  rw [hf]
  dsimp only
  rw [if_neg (by rw [hn]; simp), if_pos hb, readV_bind]
  show (some ()).bind _ = _
  rw [Option.bind_some, hx, he]
  dsimp only
  rw [readV_bind, hr]
  rfl
theorem readV_loadBytes : ∀ (bs : List UInt8) (a : Addr) (acc : ByteArray), (∀ j v, (bytesOf bs)[j]? = some v → hcell H (a.add j) = some v) → readV P (Extern.Bytes.loadBytes a bs.length acc) H = some ⟨acc.data ++ bs.toArray⟩ := by
  intro bs
  induction bs with
  | nil => intro a acc _; simp [Extern.Bytes.loadBytes]; rfl
  | cons b bs ih =>
    intro a acc h
    have h0 := h 0 (.int .u8 b.toNat) (by simp [bytesOf])
    have ea : a.add 0 = a := by simp [Addr.add]
    rw [ea] at h0
    simp only [List.length_cons, Extern.Bytes.loadBytes]
    rw [readV_bind]
    have e1 : readV P (load a) H = some (.int .u8 b.toNat) := by
      exact readV_load h0
    rw [e1]
    simp only [Option.bind_some]
    have := ih (a.add 1) (acc.push (b.toNat : Int).toNat.toUInt8) (fun j v hj => by
      have := h (j + 1) v (by simpa [bytesOf] using hj)
      rw [add_add', Nat.add_comm 1 j]; exact this)
    rw [this]
    have e : ((b.toNat : Int).toNat.toUInt8) = b := by simp
    rw [e]
    simp [ByteArray.push]
theorem readV_bytesOf {p : Option Addr} {n c : Nat} {s : ByteArray} (hn : s.size = n) (h : cellsAt H p (bytesOf s.data.toList)) : readV P (Extern.Bytes.bytesOf (.slice p n c)) H = some s := by
  have hl : s.data.toList.length = n := by rw [← hn]; rfl
  cases p with
  | none =>
    have h1 := cellsAt.none h
    have h2 : s.data.toList = [] := by simpa [bytesOf] using h1
    have h3 : s = ByteArray.empty := by
      obtain ⟨⟨l⟩⟩ := s
      simp at h2
      subst h2
      rfl
    subst h3
    rfl
  | some a =>
    show readV P (Extern.Bytes.loadBytes a n ByteArray.empty) H = _
    rw [← hl, readV_loadBytes s.data.toList a _ (cellsAt.some h rfl)]
    simp
/-- bytealg.Compare. -/
theorem cmpX {f : FuncId} {fn : Func} {p q : Option Addr} {n m c d : Nat} {a b : ByteArray} {Q : List PanicEntry → Heap → Prop} {K : Value → Heap → Prop} (hf : P.funcs[f]? = some fn) (hn : (fn.name == "runtime.NumGoroutine") = false) (hb : fn.body.isNone = true) (hx : Extern.findNext fn = none) (he : Extern.find fn = some Extern.BytealgCompare.compare)
    (h1 : a.size = n) (h2 : b.size = m) (ha : cellsAt H p (bytesOf a.data.toList)) (hb' : cellsAt H q (bytesOf b.data.toList)) (hk : K (.int .i64 (Lib.compareBytes a.data.toList b.data.toList)) H) : callX P f [.slice p n c, .slice q m d] H Q K := by
  refine callFunc_ext hf hn hb hx he ?_ hk
  show readV P (do pure (goInt (Extern.BytealgCompare.cmp (← Extern.Bytes.bytesOf (.slice p n c)) (← Extern.Bytes.bytesOf (.slice q m d))))) H = _
  rw [readV_bind, readV_bytesOf h1 ha]
  simp only [Option.bind_some]
  rw [readV_bind, readV_bytesOf h2 hb']
  simp only [Option.bind_some]
  rw [Lib.cmp_eq]
  rfl
/-- The bytes of a block. -/
theorem cellsAt_block {r : Nat} {s : ByteArray} {rest : List Value} {E : TypeId} {fr : Nat × Nat} (h : H[r]? = some (.cells ⟨bytesOf s.data.toList ++ rest⟩ E fr)) : cellsAt H (some ⟨r, 0, none⟩) (bytesOf s.data.toList) := by
  intro j v hj
  refine ⟨_, rfl, ?_⟩
  rw [add_mk, Nat.zero_add]
  refine hcell_of h ?_
  rw [List.getElem?_append_left]
  · exact hj
  · rcases Nat.lt_or_ge j (bytesOf s.data.toList).length with h | h
    · exact h
    · rw [List.getElem?_eq_none h] at hj; cases hj
theorem bsD_of {p : Option Addr} {n : Nat} {s : ByteArray} {k : ByteArray → Prop} (hn : s.size = n) (h : cellsAt H p (bytesOf s.data.toList)) (hk : k s) : bsD H p n k := ⟨s.data.toList, by rw [← hn]; rfl, h, by obtain ⟨⟨l⟩⟩ := s; exact hk⟩
instance {l : List HP} {r : Nat} {s : ByteArray} {rest : List Value} {E : TypeId} {fr : Nat × Nat} {k : ByteArray → Prop} [S : Sat H l] [A : At r (.cells ⟨bytesOf s.data.toList ++ rest⟩ E fr) l] : Step (bsD H (some ⟨r, 0, none⟩) s.size k) (k s) := ⟨fun h => bsD_of rfl (cellsAt_block (A.get S)) h⟩
theorem rawI_of {op : BinOp} {T t : TypeId} {ms : Array (String × TypeId)} {x y : Value} {ti : TypeInfo} {b : Bool} {k : Bool → Prop} (hT : P.underlying T = some (.interface ms)) (hi : P.info? t = some ti) (hc : ti.comparable = true) (he : ∀ w, (Op.equalIn 9999 t x y).run P w = .ok b w) (hk : k b) : rawI P op T (.iface t x) (.iface t y) k := by
  refine ⟨rfl, rfl, b, fun w => ?_, fun cx cy w => by unfold eqGuard; cases op <;> rfl, hk⟩
  rw [eq_one, Op.equalIn, Sem.run_bind, run_und hT, Result.andThen_ok]
  simp only
  rw [if_neg (by simp), Sem.run_bind]
  have e : (typeInfo t).run P w = .ok ti w := by
    show (match P.info? t with | some i => pure i | none => stuck "no such type" : Sem TypeInfo).run P w = _
    rw [hi]; rfl
  rw [e, Result.andThen_ok, if_neg (by rw [hc]; simp)]
  exact he w
theorem rawI_ne {op : BinOp} {T t u : TypeId} {ms : Array (String × TypeId)} {x y : Value} {k : Bool → Prop} (hT : P.underlying T = some (.interface ms)) (hn : t ≠ u) (hk : k false) : rawI P op T (.iface t x) (.iface u y) k := by
  refine ⟨rfl, rfl, false, fun w => ?_, fun cx cy w => by unfold eqGuard; cases op <;> rfl, hk⟩
  rw [eq_one, Op.equalIn, Sem.run_bind, run_und hT, Result.andThen_ok]
  simp only
  rw [if_pos hn]
  rfl
theorem rawI_str {op : BinOp} {T t : TypeId} {ms : Array (String × TypeId)} {x y : ByteArray} {ti : TypeInfo} {k : Bool → Prop} (hT : P.underlying T = some (.interface ms)) (hi : P.info? t = some ti) (hc : ti.comparable = true) (hu : P.underlying t = some .string) (hk : k (x == y)) : rawI P op T (.iface t (.string x)) (.iface t (.string y)) k :=
  rawI_of hT hi hc (fun w => by rw [Op.equalIn, Sem.run_bind, run_und hu]; rfl) hk
end
end Go.Den

set_option linter.unusedVariables false
set_option linter.unusedSimpArgs false
set_option linter.unnecessarySimpa false
namespace Go.Den
open Go
/-! Methods of what is embedded. -/
/-- The type's method of that name stands in what a pointer to a struct embeds: the field's offset and type, the function. -/
def embF (P : Program) (t : TypeId) (name : String) : Option (Nat × TypeId × Option (FuncId × Bool)) :=
  match P.info? t with
  | some i => match i.methods.find? (fun m => m.name == name) with
    | some m => match m.path.toList with
      | [s] => match s.deref with
        | true => match P.underlying s.struct with
          | some (.struct fs) => match fs[s.index]? with
            | some fd => match P.info? fd.type with
              | some fi => match fi.size with
                | 0 => none
                | _ + 1 => some (fd.offset, fd.type, m.func)
              | none => none
            | none => none
          | _ => none
        | false => none
      | _ => none
    | none => none
  | none => none
section
variable {P : Program} {H : Heap}
theorem callI_m {t : TypeId} {x recv : Value} {name : String} {f : FuncId} {args : List Value} {Q : List PanicEntry → Heap → Prop} {K : Value → Heap → Prop} (hm : readV P (method (P.types.size + 99 + 1) t x name) H = some (f, recv)) (hf : fnOk P f = true)
    (k : callD P f (recv :: args) H Q K) : callI P (.iface t x) name args H Q K :=
  ⟨t, x, f, recv, rfl, fun K' Q' h => semH_of_read hm h, hf, k⟩
theorem readV_typeInfo {t : TypeId} {i : TypeInfo} (h : P.info? t = some i) (H : Heap) : readV P (typeInfo t) H = some i := pureV.read _ H (pureV_typeInfo h)
theorem method_own {t : TypeId} {x : Value} {name : String} {f : FuncId} {n : Nat} (hm : mthOk P t name f true = true) (hp : ptrT P t = true) : readV P (method (n + 1) t x name) H = some (f, x) := by
  obtain ⟨i, m, hi, hf, hpath, hg⟩ := mthOk_get hm
  unfold ptrT at hp
  split at hp
  · rename_i e hu
    rw [method, readV_bind, readV_typeInfo hi]
    simp only [Option.bind_some, hf, hpath]
    rw [readV_bind]
    show (some (t, Place.val x)).bind _ = _
    rw [Option.bind_some, hg]
    dsimp only
    rw [readV_bind]
    unfold receiverAt
    rw [readV_bind, readV_underlying hu]
    rfl
  · cases hp
theorem emb_follow {t : TypeId} {name : String} {off : Nat} {ft : TypeId} {fn : Option (FuncId × Bool)} {a : Addr} (he : embF P t name = some (off, ft, fn)) : ∃ i m fi, P.info? t = some i ∧ i.methods.find? (fun m => m.name == name) = some m ∧ m.func = fn ∧ P.info? ft = some fi ∧ fi.size ≠ 0 ∧
    readV P (follow m.path.toList t (.val (.pointer (some a)))) H = some (ft, .var (a.add off)) := by
  unfold embF at he
  split at he
  · rename_i i hi
    split at he
    · rename_i m hf
      split at he
      · rename_i s hp
        split at he
        · rename_i hd
          split at he
          · rename_i fs hu
            split at he
            · rename_i fd hfd
              split at he
              · rename_i fi hfi
                split at he
                · cases he
                · rename_i z hz
                  cases he
                  refine ⟨i, m, fi, hi, hf, rfl, hfi, by rw [hz]; simp, ?_⟩
                  rw [hp, follow, readV_bind, readV_underlying hu]
                  simp only [Option.bind_some, hfd]
                  rw [if_pos hd, readV_bind]
                  show (some (Value.pointer (some a))).bind _ = _
                  rw [Option.bind_some, readV_bind]
                  show (some a).bind _ = _
                  rw [Option.bind_some, readV_bind]
                  unfold fieldPlace
                  rw [readV_bind, readV_sizeOf hfi, Option.bind_some, if_neg (by rw [hz]; simp)]
                  rfl
              · cases he
            · cases he
          · cases he
        · cases he
      · cases he
    · cases he
  · cases he
theorem readV_isAgg {t : TypeId} {d : TypeDesc} (hu : P.underlying t = some d) (hd : (∀ fs, d ≠ .struct fs) ∧ (∀ k e, d ≠ .array k e)) : readV P (isAgg t) H = some false := by
  unfold isAgg
  rw [readV_bind, readV_underlying hu]
  cases d <;> first | rfl | (exact absurd rfl (hd.1 _)) | (exact absurd rfl (hd.2 _ _))
theorem readV_loadVar {t : TypeId} {d : TypeDesc} {a : Addr} {v : Value} (hu : P.underlying t = some d) (hd : (∀ fs, d ≠ .struct fs) ∧ (∀ k e, d ≠ .array k e)) (h : hcell H a = some v) : readV P (loadVar t a) H = some v := by
  unfold loadVar
  rw [readV_bind, readV_isAgg hu hd]
  exact readV_load h
theorem method_emb {t : TypeId} {name : String} {off : Nat} {ft : TypeId} {f : FuncId} {a : Addr} {p : Option Addr} {n : Nat} (he : embF P t name = some (off, ft, some (f, true))) (hp : ptrT P ft = true) (hc : hcell H (a.add off) = some (.pointer p)) : readV P (method (n + 1) t (.pointer (some a)) name) H = some (f, .pointer p) := by
  obtain ⟨i, m, fi, hi, hf, hg, hfi, hz, hfo⟩ := emb_follow (H := H) (a := a) he
  unfold ptrT at hp
  split at hp
  · rename_i e hu
    rw [method, readV_bind, readV_typeInfo hi]
    simp only [Option.bind_some, hf]
    rw [readV_bind, hfo, Option.bind_some, hg]
    dsimp only
    rw [readV_bind]
    have : readV P (receiverAt ft (.var (a.add off)) true (if m.path.isEmpty then some ((name.splitOn ".").getLastD name) else none)) H = some (.pointer p) := by
      unfold receiverAt
      rw [readV_bind, readV_underlying hu]
      exact readV_loadVar hu ⟨by simp, by simp⟩ hc
    rw [this]
    rfl
  · cases hp
theorem method_embI {t : TypeId} {name : String} {off : Nat} {ft : TypeId} {f : FuncId} {a : Addr} {t' : TypeId} {v' recv : Value} {ms : Array (String × TypeId)} {n : Nat} (he : embF P t name = some (off, ft, none)) (hu : P.underlying ft = some (.interface ms)) (hc : hcell H (a.add off) = some (.iface t' v'))
    (hr : readV P (method n t' v' name) H = some (f, recv)) : readV P (method (n + 1) t (.pointer (some a)) name) H = some (f, recv) := by
  obtain ⟨i, m, fi, hi, hf, hg, hfi, hz, hfo⟩ := emb_follow (H := H) (a := a) he
  rw [method, readV_bind, readV_typeInfo hi]
  simp only [Option.bind_some, hf]
  rw [readV_bind, hfo, Option.bind_some, hg]
  dsimp only
  rw [readV_bind]
  have : readV P (Place.get ft (.var (a.add off))) H = some (.iface t' v') := readV_loadVar hu ⟨by simp, by simp⟩ hc
  rw [this]
  exact hr
end
theorem atOld {b : Nat} {o : Obj} {H0 : Heap} (h : H0[b]? = some o) : ∀ (l : List HP) [OldAt l H0], At b o l := fun l O => ⟨fun k x => by
  obtain ⟨g, h1, h2⟩ := x.mem O.out
  exact h2 _ _ (h1 b o h)⟩
section
variable {α : Type} {f : α → List Value} {z : Nat} {xs : List α} {H H0 : Heap} {l : List HP} {A a : Addr} {i : Int} {j : Nat} {x : α}
instance (priority := 900) {k : Option Addr} {K : Option Addr → Prop} [S : Sat H l] [L : Elt A a i z j] [O : OldAt l H0] [R : RowsC H0 (some a) f z xs] [X : HasI xs i x] [N : Nth (f x) j (.pointer k)] : Step (ldPtr H A K) (K k) := ⟨fun h => ⟨_, row_cell S L O R X N, h⟩⟩
end
end Go.Den

set_option linter.unusedVariables false
set_option linter.unusedSimpArgs false
set_option linter.unnecessarySimpa false
namespace Go.Den
open Go
/-! Records copied into a slice, and a field without a size. -/
section
variable {α : Type} {f : α → List Value} {E : TypeId} {z n c : Nat} {p : Option Addr} {xs : List α} {H : Heap} {m : List HP}
theorem flat_take {z : Nat} : ∀ {xs : List α} {k : Nat}, (∀ x ∈ xs, (f x).length = z) → (xs.flatMap f).take (k * z) = (xs.take k).flatMap f
  | [], k, _ => by simp
  | x :: xs, 0, _ => by simp
  | x :: xs, k + 1, h => by
    have hx := h x (List.mem_cons_self ..)
    rw [List.flatMap_cons, List.take_succ_cons, List.flatMap_cons, Nat.succ_mul, List.take_append, hx]
    have e : k * z + z - z = k * z := by omega
    rw [e, flat_take (fun y hy => h y (List.mem_cons_of_mem _ hy)), List.take_of_length_le (by omega)]
theorem flat_drop {z : Nat} : ∀ {xs : List α} {k : Nat}, (∀ x ∈ xs, (f x).length = z) → (xs.flatMap f).drop (k * z) = (xs.drop k).flatMap f
  | [], k, _ => by simp
  | x :: xs, 0, _ => by simp
  | x :: xs, k + 1, h => by
    have hx := h x (List.mem_cons_self ..)
    rw [List.flatMap_cons, List.drop_succ_cons, Nat.succ_mul, List.drop_append, hx]
    have e : k * z + z - z = k * z := by omega
    rw [e, flat_drop (fun y hy => h y (List.mem_cons_of_mem _ hy)), List.drop_eq_nil_of_le (by omega), List.nil_append]
theorem Sat.slCopy (S : Sat H (sl f E z p n c xs :: m)) {i d : Nat} {q : Option Addr} {ys : List α} {K : Nat → Heap → Prop} (hi : i ≤ n) (hq : cellsAt H q (ys.flatMap f)) (hd : ys.length = d) (hys : ∀ y ∈ ys, (f y).length = z) (hc : ∀ v ∈ ys.flatMap f, isCell v = true)
    (k : ∀ H1, Sat H1 (sl f E z p n c (xs.take i ++ ys.take (Nat.min d (n - i)) ++ xs.drop (i + Nat.min d (n - i))) :: m) → K (Nat.min d (n - i)) H1) : cpD H z (slP p i c z) (n - i) q d K := by
  have hk1 : Nat.min d (n - i) ≤ d := Nat.min_le_left _ _
  have hk2 : Nat.min d (n - i) ≤ n - i := Nat.min_le_right _ _
  generalize hkk : Nat.min d (n - i) = t at *
  refine ⟨(ys.take t).flatMap f, ?_, ?_, ?_⟩
  · rw [flat_len (fun y hy => hys y (List.mem_of_mem_take hy)), List.length_take, hkk]
    congr 1; omega
  · intro j v hj
    refine hq j v ?_
    rw [← flat_take hys] at hj
    rw [List.getElem?_take] at hj
    split at hj
    · exact hj
    · cases hj
  · rw [hkk]
    by_cases ht : t = 0
    · subst ht
      have e : xs.take i ++ ys.take 0 ++ xs.drop (i + 0) = xs := by simp
      rw [e] at k
      simp only [List.take_zero, List.flatMap_nil]
      unfold stP
      cases slP p i c z <;> exact k H S
    · obtain ⟨a1, a2, a3, a4⟩ := S.slOpen
      rcases a4 with ⟨rfl, h0, _⟩ | ⟨r, pre, sp, rfl, hl, S1⟩
      · omega
      · have hx : (xs.flatMap f).length = n * z := by rw [flat_len a2, a1]
        have hyl : ((ys.take t).flatMap f).length = t * z := by
          rw [flat_len (fun y hy => hys y (List.mem_of_mem_take hy)), List.length_take]; congr 1; omega
        have hmul : i * z + t * z ≤ n * z := by rw [← Nat.add_mul]; exact Nat.mul_le_mul_right z (by omega)
        have hsp : slP (some ⟨r, pre.length, none⟩) i c z = some ⟨r, pre.length + i * z, none⟩ := by
          unfold slP
          rw [if_neg (by omega)]
          simp [add_mk]
        rw [hsp]
        unfold stP
        dsimp only
        rw [add_mk]
        refine stCs_front (o := pre.length + i * z) ((ys.take t).flatMap f) 0 H _ S1 (fun v hv => ?_) (by simp only [List.length_append, hx, hyl]; omega) ?_
        · obtain ⟨y, hy, hv⟩ := List.mem_flatMap.1 hv
          exact hc v (List.mem_flatMap.2 ⟨y, List.mem_of_mem_take hy, hv⟩)
        · intro H1 S2
          refine k H1 (S2.to ?_)
          have e : (pre ++ xs.flatMap f ++ sp).take (pre.length + i * z + 0) ++ (ys.take t).flatMap f ++ (pre ++ xs.flatMap f ++ sp).drop (pre.length + i * z + 0 + ((ys.take t).flatMap f).length) = pre ++ (xs.take i ++ ys.take t ++ xs.drop (i + t)).flatMap f ++ sp := by
            rw [hyl, Nat.add_zero, List.append_assoc pre, List.take_length_add_append, Nat.add_assoc, List.drop_length_add_append, List.take_append_of_le_length (by rw [hx]; omega), List.drop_append_of_le_length (by rw [hx]; omega), flat_take a2, ← Nat.add_mul, flat_drop a2]
            simp only [List.flatMap_append, List.append_assoc]
          rw [e]
          refine Ent.slClose ?_ ?_ a3 rfl hl
          · simp only [List.length_append, List.length_take, List.length_drop]; omega
          · intro x hx'
            rcases List.mem_append.1 hx' with h | h
            · rcases List.mem_append.1 h with h | h
              · exact a2 x (List.mem_of_mem_take h)
              · exact hys x (List.mem_of_mem_take h)
            · exact a2 x (List.mem_of_mem_drop h)
end
/-- The address of a field without a size. -/
def zfOk (P : Program) (T S : TypeId) (f : Nat) : Bool :=
  match P.underlying S with
  | some (.struct fs) => match fs[f]? with
    | some fd => match P.info? fd.type with
      | some i => i.size == 0 && (byteOfCell P P.depth T (0 % P.cellsOf T)).isSome && (byteOfCell P P.depth T (fd.offset % P.cellsOf T)).isSome
      | none => false
    | none => false
  | _ => false
theorem readV_byteOf {P : Program} {H : Heap} {r o : Nat} {c : Array Value} {T : TypeId} {w : Nat} (hb : H[r]? = some (.cells c T (w, w))) (h : (byteOfCell P P.depth T (o % P.cellsOf T)).isSome = true) : ∃ b, readV P (byteOf ⟨r, o, none⟩) H = some b := by
  have hp : plainB H r := ⟨c, T, w, hb⟩
  unfold byteOf
  show ∃ b, readV P (program >>= _) H = some b
  rw [readV_bind]
  show ∃ b, (some P).bind _ = some b
  rw [Option.bind_some, readV_bind, readV_noView hp, Option.bind_some, readV_bind]
  have hs : hshape H r = some (T, c.size) := by unfold hshape; rw [hb]
  rw [readV_shape (plain_lt hp), hs]
  dsimp only [Option.bind_some]
  split
  · exact ⟨_, rfl⟩
  · obtain ⟨b, hb'⟩ := Option.isSome_iff_exists.1 h
    rw [hb']
    exact ⟨_, rfl⟩
theorem zf_i {P : Program} {H : Heap} {S : TypeId} {f : Nat} {r : Nat} {c : Array Value} {T : TypeId} {w : Nat} {k : Addr → Prop} (hz : zfOk P T S f = true) (hb : H[r]? = some (.cells c T (w, w))) (hk : ∀ a, k a) : zfD P H S f (.pointer (some ⟨r, 0, none⟩)) k := by
  unfold zfOk at hz
  split at hz
  · rename_i fs hu
    split at hz
    · rename_i fd hf
      split at hz
      · rename_i i hi
        simp only [Bool.and_eq_true, beq_iff_eq] at hz
        obtain ⟨⟨h1, h2⟩, h3⟩ := hz
        obtain ⟨b1, e1⟩ := readV_byteOf (o := 0) hb h2
        obtain ⟨b2, e2⟩ := readV_byteOf (o := 0 + fd.offset) hb (by rw [Nat.zero_add]; exact h3)
        refine ⟨if b2 = b1 + fd.byteOffset then (⟨r, 0 + fd.offset, none⟩ : Addr) else { (⟨r, 0 + fd.offset, none⟩ : Addr) with spot := some (b1 + fd.byteOffset) }, ?_, hk _⟩
        unfold Instr.fieldAt
        rw [readV_bind, readV_underlying hu]
        simp only [Option.bind_some, hf]
        rw [readV_bind]
        simp only [Instr.sureAddr, readV_pure, Option.bind_some]
        rw [readV_bind]
        unfold fieldPlace
        rw [readV_bind, readV_sizeOf hi, Option.bind_some, if_pos h1]
        unfold partAt
        rw [readV_bind, e1, Option.bind_some]
        dsimp only
        rw [readV_bind, e2, Option.bind_some]
        rfl
      · cases hz
    · cases hz
  · cases hz
end Go.Den

set_option linter.unusedVariables false
set_option linter.unusedSimpArgs false
set_option linter.unnecessarySimpa false
namespace Go.Den
open Go
/-! Maps whose keys are pointers to whole blocks. -/
abbrev ptrK (r : Nat) : Value := .pointer (some ⟨r, 0, none⟩)
def eqK (r : Nat) (v : Value) : Bool := match v with | .pointer (some a) => (⟨r, 0, none⟩ : Addr) == a | _ => false
theorem eqK_ok (r r' : Nat) : eqK r (ptrK r') = decide (r = r') := by
  unfold eqK
  rw [Bool.eq_iff_iff]
  simp
section
variable {P : Program} {H : Heap} {kt e : TypeId} {ie : TypeInfo}
theorem equalK (hu : P.underlying kt = some (.pointer e)) (hie : P.info? e = some ie) (hz : ie.size ≠ 0) {r r' : Nat} (h1 : plainB H r) (h2 : plainB H r') : readV P (Op.equal kt (ptrK r) (ptrK r')) H = some (decide (r = r')) := by
  have h : pqD H (some ⟨r, 0, none⟩) (some ⟨r', 0, none⟩) (fun b => b = decide (r = r')) := by
    unfold pqD
    by_cases hr : r = r'
    · refine .inl ⟨hr, ?_⟩
      subst hr; simp
    · exact .inr ⟨hr, h1, h2, by simp [hr]⟩
  obtain ⟨b, hb, rfl⟩ := pqD.spec hu hie hz h
  exact hb
theorem findAskK (hu : P.underlying kt = some (.pointer e)) (hie : P.info? e = some ie) (hz : ie.size ≠ 0) {r : Nat} (h1 : plainB H r) : ∀ (es : List MapEntry) (i : Nat), (∀ x ∈ es, ∃ r', x.key = ptrK r' ∧ plainB H r') → readV P (Instr.findAsking kt (ptrK r) es i) H = some (fnd (eqK r) es i)
  | [], i, _ => rfl
  | x :: es, i, h => by
    obtain ⟨r', hx, h2⟩ := h x (List.mem_cons_self ..)
    unfold Instr.findAsking
    rw [readV_bind, hx, equalK hu hie hz h1 h2, Option.bind_some]
    unfold fnd
    rw [hx, eqK_ok]
    by_cases hr : r = r'
    · simp [hr]; rfl
    · simp only [hr, decide_false, Bool.false_eq_true, if_false]
      exact findAskK hu hie hz h1 es (i + 1) fun y hy => h y (List.mem_cons_of_mem _ hy)
theorem findK (hu : P.underlying kt = some (.pointer e)) (hie : P.info? e = some ie) (hz : ie.size ≠ 0) {r : Nat} (h1 : plainB H r) (es : List MapEntry) (h : ∀ x ∈ es, ∃ r', x.key = ptrK r' ∧ plainB H r') : readV P (Instr.findKey kt (ptrK r) es) H = some (fnd (eqK r) es 0) := by
  unfold Instr.findKey
  rw [readV_bind, readV_underlying hu, Option.bind_some]
  cases es with
  | nil => rfl
  | cons x es =>
    obtain ⟨r', hx, h2⟩ := h x (List.mem_cons_self ..)
    have : Instr.findNow (.pointer e) (ptrK r) (x :: es) 0 = none := by
      unfold Instr.findNow
      rw [hx]
      rfl
    rw [this]
    exact findAskK hu hie hz h1 (x :: es) 0 h
theorem checkK (hu : P.underlying kt = some (.pointer e)) (b : Bool) (r : Nat) : pureV P (Instr.checkKey b 10000 kt (ptrK r)) = some () := by
  unfold Instr.checkKey
  rw [pureV_bind, pureV_underlying hu]
  rfl
variable {Q : List PanicEntry → Heap → Prop} {ν : Type} {fv : ν → Value} {m : List (Nat × ν)} {l : List HP} {t et mr : TypeId} {z : Value}
theorem keysK {es : List MapEntry} (he : es.map (fun e => (e.key, e.val)) = m.map (fun x => (ptrK x.1, fv x.2))) (hp : ∀ x ∈ m, plainB H x.1) : ∀ x ∈ es, ∃ r', x.key = ptrK r' ∧ plainB H r' := by
  intro x hx
  have : (x.key, x.val) ∈ es.map (fun e => (e.key, e.val)) := List.mem_map_of_mem hx
  rw [he] at this
  obtain ⟨y, hy, hh⟩ := List.mem_map.1 this
  exact ⟨y.1, by injection hh with a b; exact a.symm, hp y hy⟩
/-- What a map of pointers needs of its types. -/
structure PtrMap (P : Program) (t kt et e : TypeId) (ie : TypeInfo) (z : Value) : Prop where
  map : P.underlying t = some (.map kt et)
  key : P.underlying kt = some (.pointer e)
  info : P.info? e = some ie
  size : ie.size ≠ 0
  zero : pureV P (zeroValue et) = some z
theorem Sat.lookupK {r : Nat} (T : PtrMap P t kt et e ie z) (S : Sat H l) (hm : mp ptrK fv mr m ∈ l) (hr : plainB H r) (hp : ∀ x ∈ m, plainB H x.1) {ok : Bool} {K : Value → Heap → Prop} (h1 : ∀ v, mget m r = some v → K (if ok then .tuple #[fv v, .bool true] else fv v) H) (h2 : mget m r = none → K (if ok then .tuple #[z, .bool false] else z) H) :
    valD P (Instr.lookup t (.map (some mr)) (ptrK r) ok) H Q K := by
  obtain ⟨h, ⟨es, clk, hb, he, _, _⟩, hs⟩ := S.mem hm
  have hb' := hs _ _ hb
  refine ⟨?_⟩
  unfold Instr.lookup
  rw [SemH_bind]
  refine semH_of_pure (pureV_underlying T.map) ?_
  dsimp only
  rw [SemH_bind, SemH_getObj]
  refine ⟨_, hb', rfl, ?_⟩
  dsimp only
  rw [SemH_bind, SemH_pure, SemH_bind]
  refine semH_of_pure (checkK T.key _ r) ?_
  rw [SemH_bind]
  refine semH_of_read (findK T.key T.info T.size hr es.toList (keysK he hp)) ?_
  rcases fnd_mget_at (fk := ptrK) (eqK_ok r) es.toList m he with ⟨h3, h4⟩ | ⟨j, v, x, h3, h4, _⟩
  · rw [h4]
    dsimp only
    rw [SemH_bind]
    refine semH_of_pure T.zero ?_
    rw [SemH_bind, SemH_pure, SemH_pure]
    exact h2 h3
  · rw [h4]
    dsimp only
    rw [SemH_bind, SemH_pure, SemH_pure]
    exact h1 v h3
/-- A key that is not there yet is put. -/
theorem Sat.mpSetK {r : Nat} (T : PtrMap P t kt et e ie z) (S : Sat H (mp ptrK fv mr m :: l)) (hr : plainB H r) (hp : ∀ x ∈ m, plainB H x.1) (hn : mget m r = none) (v : ν) {K : Heap → Prop} (h : ∀ H1, Sat H1 (mp ptrK fv mr (m ++ [(r, v)]) :: l) → K H1) : uniD P (Instr.mapUpdate t (.map (some mr)) (ptrK r) (fv v)) H Q K := by
  obtain ⟨h', ⟨es, clk, hb, he, hnd, hlt⟩, hs, x⟩ := S.out
  have hb' : H[mr]? = some (.map es clk) := hs _ _ hb
  have upd : ∀ o, Upd mr o H (H.setIfInBounds mr o) := fun o => ⟨by simp, fun b _ hne => by rw [Array.getElem?_setIfInBounds_ne (Ne.symm hne)], by rw [Array.getElem?_setIfInBounds]; simp [block_lt hb']⟩
  have h4 : fnd (eqK r) es.toList 0 = none := by
    rcases fnd_mget_at (fk := ptrK) (eqK_ok r) es.toList m he with ⟨_, h4⟩ | ⟨j, w, y, h3, _⟩
    · exact h4
    · rw [hn] at h3; cases h3
  have S1 : Sat H (pt mr (.map es clk) :: l) := ⟨⟨h', hb, hs, x⟩⟩
  have fin := h _ ((S1.upd (upd (.map (es.push { key := ptrK r, val := fv v, born := clk }) (clk + 1)))).to (Ent.first fun k hk => ⟨_, _, hk, by simp [he], by
      simp only [Array.toList_push, List.map_append, List.map_cons, List.map_nil]
      rw [List.nodup_append]
      refine ⟨hnd, by simp, ?_⟩
      intro a ha b hb
      simp at hb ha
      obtain ⟨y, he1, rfl⟩ := ha
      have := hlt y (by simpa using he1)
      omega, by
      intro y he1
      simp at he1
      rcases he1 with he1 | rfl
      · have := hlt y (by simpa using he1); omega
      · simp⟩))
  refine ⟨?_⟩
  unfold Instr.mapUpdate
  rw [SemH_bind]
  refine semH_of_pure (pureV_underlying T.map) ?_
  dsimp only
  rw [SemH_bind, SemH_getObj]
  refine ⟨_, hb', rfl, ?_⟩
  dsimp only
  rw [SemH_bind]
  refine semH_of_pure (checkK T.key _ r) ?_
  rw [SemH_bind]
  refine semH_of_read (findK T.key T.info T.size hr es.toList (keysK he hp)) ?_
  rw [h4]
  dsimp only
  exact ⟨_, hb', rfl, fin⟩
/-- A channel is made. -/
theorem Sat.mkChan {t el : TypeId} {d : ChanDir} {n : Int} {ie : TypeInfo} (S : Sat H l) (hu : P.underlying t = some (.chan d el)) (hie : P.info? el = some ie) (h0 : 0 ≤ n) (h1 : n ≤ 1000) (h2 : ie.bytes ≤ 1000000) {K : Value → Heap → Prop} (k : ∀ r H1, Sat H1 (pt r (.chan n.toNat #[] false 0 0 false) :: l) → K (.chan (some r)) H1) : valD P (Instr.makeChan t (.int .i64 n)) H Q K := by
  refine ⟨?_⟩
  unfold Instr.makeChan
  rw [SemH_bind]
  show SemH P (underlying t >>= _) H _ _
  rw [SemH_bind]
  refine semH_of_pure (pureV_underlying hu) ?_
  dsimp only
  rw [SemH_bind]
  refine semH_of_pure (a := ie) ?_ ?_
  · show pureV P (typeInfo el) = some ie
    show pureV P (match P.info? el with | some d => pure d | none => stuck "no such type" : Sem TypeInfo) = _
    rw [hie]; rfl
  · have hb : (ie.bytes : Int) * n ≤ 1000000 * 1000 := by
      have : (ie.bytes : Int) ≤ 1000000 := by omega
      exact Int.mul_le_mul this h1 h0 (by omega)
    rw [if_neg (by
      intro h
      rcases h with h | h | h
      · omega
      · have : IntKind.max .i64 = 9223372036854775807 := rfl
        omega
      · omega)]
    exact k _ _ (S.push _)
end
end Go.Den

set_option linter.unusedVariables false
set_option linter.unusedSimpArgs false
set_option linter.unnecessarySimpa false
namespace Go.Den
open Go
/-! A part of memory that stays, and what is made. -/
def has (g : PH) : HP := fun h => PH.sub g h
class HasG (l : List HP) (g : outParam PH) : Prop where
  out : has g ∈ l
instance (priority := 2000) HasG.here {g : PH} {l : List HP} : HasG (has g :: l) g := ⟨List.mem_cons_self ..⟩
instance (priority := 1000) HasG.there {g : PH} {c : HP} {l : List HP} [h : HasG l g] : HasG (c :: l) g := ⟨List.mem_cons_of_mem _ h.out⟩
theorem HasG.sub {H : Heap} {l : List HP} {g : PH} (G : HasG l g) (S : Sat H l) : PH.sub g (PH.of H) := by
  obtain ⟨h, h1, h2⟩ := S.mem G.out
  exact h1.trans h2
abbrev pA (b : Nat) : Value := .pointer (some ⟨b, 0, none⟩)
abbrev aA (b : Nat) : Addr := ⟨b, 0, none⟩
theorem freshS {H H0 : Heap} {l x y : List HP} {r : Nat} {o : Obj} (S : Sat H l) (s1 : Sel (pt r o) l x) (s2 : Sel (Den.old H0) x y) : H0.size ≤ r :=
  @Sat.fresh H H0 l x y r o S ⟨s1⟩ ⟨s2⟩
def newOf (H H1 : Heap) : PH := fun b => if H.size ≤ b then H1[b]? else none
theorem sub_new {H H1 : Heap} : PH.sub (newOf H H1) (PH.of H1) := by
  intro b o e
  unfold newOf at e
  split at e
  · exact e
  · cases e
/-- What was made is added to what stays. -/
def plus (g : PH) (H H1 : Heap) : PH := PH.join g (newOf H H1)
theorem sub_plus_l {g : PH} {H H1 : Heap} : PH.sub g (plus g H H1) := by
  intro b o e
  unfold plus PH.join
  rw [e]
theorem sub_plus_r {g : PH} {H H1 : Heap} {l : List HP} [G : HasG l g] (S : Sat H l) : PH.sub (newOf H H1) (plus g H H1) := by
  intro b o e
  unfold plus PH.join
  have : g b = none := by
    cases h : g b with
    | none => rfl
    | some x =>
      have h1 := block_lt (G.sub S b x h)
      unfold newOf at e
      split at e
      · omega
      · cases e
  rw [this]
  exact e
theorem plus_has {g : PH} {H H1 : Heap} {l : List HP} (S : Sat H (has g :: l)) (E : ExtH H H1) : Sat H1 (has (plus g H H1) :: l) := by
  obtain ⟨h, h1, h2, x⟩ := S.out
  refine ⟨PH.join h (newOf H H1), ?_, ?_, x.mono ?_⟩
  · intro b o e
    unfold plus PH.join at e
    unfold PH.join
    split at e
    · rename_i o' e'
      cases e
      rw [h1 b _ e']
    · rename_i e'
      cases hb : h b with
      | none => exact e
      | some y =>
        have := block_lt (h2 b y hb)
        unfold newOf at e
        split at e
        · omega
        · cases e
  · intro b o e
    unfold PH.join at e
    split at e
    · rename_i o' e'
      cases e
      exact E.block_some (h2 b _ e')
    · exact sub_new b o e
  · intro b o e
    obtain ⟨e1, e2⟩ := PH.of_minus e
    have hl := block_lt e2
    have : PH.join h (newOf H H1) b = none := by
      unfold PH.join
      rw [e1]
      unfold newOf
      rw [if_neg (by omega)]
    rw [PH.minus_none this]
    exact E.block_some e2
theorem extOf {H H0 : Heap} {l : List HP} {g : PH} (S : Sat H l) [G : HasG l g] (h : PH.sub (PH.of H0) g) : ExtH H0 H := by
  have key : ∀ b o, H0[b]? = some o → H[b]? = some o := fun b o e => G.sub S b o (h b o e)
  refine ⟨?_, fun b hb => ?_⟩
  · rcases Nat.lt_or_ge H.size H0.size with hlt | hge
    · have := block_lt (key H.size _ (Array.getElem?_eq_getElem hlt)); omega
    · exact hge
  · rw [key b _ (Array.getElem?_eq_getElem hb), Array.getElem?_eq_getElem hb]
theorem newOf_at {H H1 : Heap} {r : Nat} {o : Obj} (h : H.size ≤ r) (e : H1[r]? = some o) : newOf H H1 r = some o := by
  unfold newOf
  rw [if_pos h]
  exact e
theorem cellsAt_ext {H H1 : Heap} {p : Option Addr} {vs : List Value} (h : cellsAt H p vs) (e : ExtH H H1) : cellsAt H1 p vs := by
  intro j v hj
  obtain ⟨a, h1, h2⟩ := h j v hj
  exact ⟨a, h1, e.cell h2⟩
theorem cellsAt_one {H : Heap} {r : Nat} {cs : List Value} {T : TypeId} {fr : Nat × Nat} (h : H[r]? = some (.cells ⟨cs⟩ T fr)) : cellsAt H (some ⟨r, 0, none⟩) cs := by
  intro j v hj
  refine ⟨_, rfl, ?_⟩
  rw [add_mk, Nat.zero_add]
  exact hcell_of h hj
theorem subExt {H H1 : Heap} {g : PH} (h : PH.sub g (PH.of H)) (e : ExtH H H1) : PH.sub g (PH.of H1) := h.trans fun b o x => e.block_some x
theorem has_nothing {H : Heap} {l : List HP} (S : Sat H l) : Sat H (has (fun _ => none) :: l) := by
  have h1 : has (fun _ => none) (fun _ => none) := fun b o e => by cases e
  have h2 : PH.sub (fun _ => none) (PH.of H) := fun b o e => by cases e
  exact ⟨fun _ => none, h1, h2, S.out.mono fun b o e => by rw [PH.minus_none rfl]; exact e⟩
def put1 (g : PH) (r : Nat) (o : Obj) : PH := fun b => if b = r then some o else g b
/-- A block of one's own is let go: it stays. -/
theorem has_put {H : Heap} {l : List HP} {g : PH} {r : Nat} {o : Obj} (S : Sat H (pt r o :: has g :: l)) : Sat H (has (put1 g r o) :: l) ∧ PH.sub g (put1 g r o) ∧ put1 g r o r = some o := by
  obtain ⟨h, h1, h2, h', h3, h4, x⟩ := S.out
  have hd : ∀ b y, h' b = some y → h b = none ∧ PH.of H b = some y := fun b y e => PH.of_minus (h4 b y e)
  refine ⟨⟨PH.join h h', ?_, ?_, x.mono ?_⟩, ?_, if_pos rfl⟩
  · intro b y e
    unfold put1 at e
    unfold PH.join
    split at e
    · rename_i hb
      subst hb
      rw [show h b = some o from h1]; exact e
    · have e2 := h3 b y e
      rw [(hd b y e2).1]; exact e2
  · intro b y e
    unfold PH.join at e
    split at e
    · rename_i y' e'
      cases e
      exact h2 b _ e'
    · exact (hd b y e).2
  · intro b y e
    obtain ⟨e1, e2⟩ := PH.of_minus e
    obtain ⟨e3, e4⟩ := PH.of_minus e2
    have : PH.join h h' b = none := by
      unfold PH.join
      rw [e3]; exact e1
    rw [PH.minus_none this]; exact e4
  · intro b y e
    unfold put1
    split
    · rename_i hb
      subst hb
      have := (hd b y (h3 b y e)).1
      rw [show h b = some o from h1] at this; cases this
    · exact e
/-! Blocks that are only looked at. -/
class Blc (H : Heap) (r : Nat) (o : outParam Obj) : Prop where
  out : H[r]? = some o
section
variable {P : Program} {H : Heap} {l : List HP} {r j : Nat} {a : Addr} {cs : List Value} {T : TypeId} {fr : Nat × Nat}
theorem blk_cell {v : Value} (L : Loca a r j) (A : Blc H r (.cells ⟨cs⟩ T fr)) (N : Nth cs j v) : hcell H a = some v := by
  rw [L.out]
  exact hcell_of A.out N.out
instance (priority := 400) {kd : IntKind} {n : Int} {K : Int → Prop} [L : Loca a r j] [A : Blc H r (.cells ⟨cs⟩ T fr)] [N : Nth cs j (.int kd n)] : Step (ldInt H a kd K) (K n) := ⟨fun h => ⟨_, blk_cell L A N, h⟩⟩
instance (priority := 400) {n : Bool} {K : Bool → Prop} [L : Loca a r j] [A : Blc H r (.cells ⟨cs⟩ T fr)] [N : Nth cs j (.bool n)] : Step (ldBool H a K) (K n) := ⟨fun h => ⟨_, blk_cell L A N, h⟩⟩
instance (priority := 400) {n : ByteArray} {K : ByteArray → Prop} [L : Loca a r j] [A : Blc H r (.cells ⟨cs⟩ T fr)] [N : Nth cs j (.string n)] : Step (ldStr H a K) (K n) := ⟨fun h => ⟨_, blk_cell L A N, h⟩⟩
instance (priority := 400) {n : Option Addr} {K : Option Addr → Prop} [L : Loca a r j] [A : Blc H r (.cells ⟨cs⟩ T fr)] [N : Nth cs j (.pointer n)] : Step (ldPtr H a K) (K n) := ⟨fun h => ⟨_, blk_cell L A N, h⟩⟩
instance (priority := 400) {p : Option Addr} {n c : Nat} {K : Option Addr → Nat → Nat → Prop} [L : Loca a r j] [A : Blc H r (.cells ⟨cs⟩ T fr)] [N : Nth cs j (.slice p n c)] : Step (ldSl H a K) (K p n c) := ⟨fun h => ⟨_, _, _, blk_cell L A N, h⟩⟩
instance (priority := 400) {K : IV → Prop} [L : Loca a r j] [A : Blc H r (.cells ⟨cs⟩ T fr)] [N : Nth cs j .nilIface] : Step (ldIf H a K) (K .nil) := ⟨fun h => ⟨.nil, blk_cell L A N, h⟩⟩
instance (priority := 400) {t : TypeId} {x : Value} {K : IV → Prop} [L : Loca a r j] [A : Blc H r (.cells ⟨cs⟩ T fr)] [N : Nth cs j (.iface t x)] : Step (ldIf H a K) (K (.mk t x)) := ⟨fun h => ⟨.mk t x, blk_cell L A N, h⟩⟩
instance (priority := 400) {i : IV} {K : IV → Prop} [L : Loca a r j] [A : Blc H r (.cells ⟨cs⟩ T fr)] [N : Nth cs j i.v] : Step (ldIf H a K) (K i) := ⟨fun h => ⟨i, blk_cell L A N, h⟩⟩
end
theorem Blc.ext {H H1 : Heap} {r : Nat} {o : Obj} (h : Blc H r o) (e : ExtH H H1) : Blc H1 r o := ⟨e.block_some h.out⟩
end Go.Den

set_option linter.unusedVariables false
set_option linter.unusedSimpArgs false
set_option linter.unnecessarySimpa false
namespace Go.Den
open Go
/-! Lists that are sorted by swaps. -/
section
variable {α : Type}
abbrev swp (xs : List α) (i j : Nat) (x y : α) : List α := (xs.set i y).set j x
theorem swp_get {xs : List α} {i j k : Nat} {x y : α} (hi : xs[i]? = some x) (hj : xs[j]? = some y) : (swp xs i j x y)[k]? = if k = j then some x else if k = i then some y else xs[k]? := by
  have h1 := lt_of hi
  have h2 := lt_of hj
  unfold swp
  by_cases hk : k = j
  · rw [if_pos hk, hk, List.getElem?_set_self (by simpa using h2)]
  · rw [if_neg hk, List.getElem?_set_ne (fun h => hk h.symm)]
    by_cases hk2 : k = i
    · rw [if_pos hk2, hk2, List.getElem?_set_self h1]
    · rw [if_neg hk2, List.getElem?_set_ne (fun h => hk2 h.symm)]
theorem swp_perm {xs : List α} {i j : Nat} {x y : α} (hi : xs[i]? = some x) (hj : xs[j]? = some y) : (swp xs i j x y).Perm xs := by
  obtain ⟨h1, e1⟩ := List.getElem?_eq_some_iff.1 hi
  obtain ⟨h2, e2⟩ := List.getElem?_eq_some_iff.1 hj
  subst e1; subst e2
  exact List.set_set_perm h1 h2
/-- One list becomes the other by swaps between two places. -/
inductive RP (a b : Nat) : List α → List α → Prop
  | refl (xs : List α) : RP a b xs xs
  | step {xs ys : List α} {i j : Nat} {x y : α} : a ≤ i → i < b → a ≤ j → j < b → xs[i]? = some x → xs[j]? = some y → RP a b (swp xs i j x y) ys → RP a b xs ys
variable {a b a' b' : Nat} {xs ys zs : List α}
theorem RP.trans (h1 : RP a b xs ys) (h2 : RP a b ys zs) : RP a b xs zs := by
  induction h1 with
  | refl => exact h2
  | step c1 c2 c3 c4 c5 c6 _ ih => exact .step c1 c2 c3 c4 c5 c6 (ih h2)
theorem RP.mono (h : RP a b xs ys) (h1 : a' ≤ a) (h2 : b ≤ b') : RP a' b' xs ys := by
  induction h with
  | refl => exact .refl _
  | step c1 c2 c3 c4 c5 c6 _ ih => exact .step (by omega) (by omega) (by omega) (by omega) c5 c6 ih
theorem RP.one {i j : Nat} {x y : α} (h1 : a ≤ i ∧ i < b) (h2 : a ≤ j ∧ j < b) (hi : xs[i]? = some x) (hj : xs[j]? = some y) : RP a b xs (swp xs i j x y) := .step h1.1 h1.2 h2.1 h2.2 hi hj (.refl _)
theorem RP.perm (h : RP a b xs ys) : ys.Perm xs := by
  induction h with
  | refl => exact .refl _
  | step c1 c2 c3 c4 c5 c6 _ ih => exact ih.trans (swp_perm c5 c6)
theorem RP.len (h : RP a b xs ys) : ys.length = xs.length := h.perm.length_eq
theorem RP.out (h : RP a b xs ys) {k : Nat} (hk : k < a ∨ b ≤ k) : ys[k]? = xs[k]? := by
  induction h with
  | refl => rfl
  | step c1 c2 c3 c4 c5 c6 _ ih =>
    rw [ih, swp_get c5 c6, if_neg (by omega), if_neg (by omega)]
/-- What is between the two places was between them. -/
theorem RP.mem (h : RP a b xs ys) {k : Nat} {y : α} (h1 : a ≤ k) (h2 : k < b) (hy : ys[k]? = some y) : ∃ i, a ≤ i ∧ i < b ∧ xs[i]? = some y := by
  induction h with
  | refl => exact ⟨k, h1, h2, hy⟩
  | @step xs ys i j x z c1 c2 c3 c4 c5 c6 _ ih =>
    obtain ⟨m, m1, m2, m3⟩ := ih hy
    rw [swp_get c5 c6] at m3
    split at m3
    · cases m3; exact ⟨i, c1, c2, c5⟩
    · split at m3
      · cases m3; exact ⟨j, c3, c4, c6⟩
      · exact ⟨m, m1, m2, m3⟩
theorem RP.symm (h : RP a b xs ys) : RP a b ys xs := by
  induction h with
  | refl => exact .refl _
  | @step xs ys i j x y c1 c2 c3 c4 c5 c6 _ ih =>
    refine ih.trans ?_
    have e1 : (swp xs i j x y)[j]? = some x := by rw [swp_get c5 c6, if_pos rfl]
    have e2 : (swp xs i j x y)[i]? = some y := by
      rw [swp_get c5 c6]
      by_cases hij : i = j
      · subst hij
        rw [if_pos rfl, ← c5, c6]
      · rw [if_neg hij, if_pos rfl]
    have e3 : swp (swp xs i j x y) j i x y = xs := by
      refine List.ext_getElem? fun k => ?_
      rw [swp_get e1 e2]
      by_cases hki : k = i
      · subst hki; rw [if_pos rfl, c5]
      · rw [if_neg hki]
        by_cases hkj : k = j
        · subst hkj; rw [if_pos rfl, c6]
        · rw [if_neg hkj, swp_get c5 c6, if_neg hkj, if_neg hki]
    exact .step c3 c4 c1 c2 e1 e2 (by rw [e3]; exact .refl _)
/-- A strict order in which two are the same or one is ahead. -/
structure Lin (lt : α → α → Bool) : Prop where
  irr : ∀ x, lt x x = false
  tr : ∀ x y z, lt x y = true → lt y z = true → lt x z = true
  tot : ∀ x y, lt x y = false → x = y ∨ lt y x = true
/-- Between two places, each is ahead of what follows. -/
def SoR (lt : α → α → Bool) (a b : Nat) (xs : List α) : Prop := ∀ i j x y, a ≤ i → i < j → j < b → xs[i]? = some x → xs[j]? = some y → lt x y = true
/-- All different. -/
def Dif (xs : List α) : Prop := ∀ (i j : Nat) (x : α), xs[i]? = some x → xs[j]? = some x → i = j
theorem Dif.of_nodup (h : xs.Nodup) : Dif xs := by
  intro i j x h1 h2
  obtain ⟨l1, e1⟩ := List.getElem?_eq_some_iff.1 h1
  obtain ⟨l2, e2⟩ := List.getElem?_eq_some_iff.1 h2
  have hp := List.pairwise_iff_getElem.1 h
  rcases Nat.lt_trichotomy i j with hlt | heq | hgt
  · exact absurd (e1.trans e2.symm) (hp i j l1 l2 hlt)
  · exact heq
  · exact absurd (e2.trans e1.symm) (hp j i l2 l1 hgt)
theorem Dif.swp {i j : Nat} {x y : α} (h : Dif xs) (hi : xs[i]? = some x) (hj : xs[j]? = some y) : Dif (swp xs i j x y) := by
  intro k m z h1 h2
  rw [swp_get hi hj] at h1 h2
  have key : ∀ k, (if k = j then some x else if k = i then some y else xs[k]?) = some z → ∃ k', xs[k']? = some z ∧ k' = if k = j then i else if k = i then j else k := by
    intro k hk
    by_cases c1 : k = j
    · rw [if_pos c1] at hk ⊢
      exact ⟨i, by rw [hi]; exact hk, rfl⟩
    · rw [if_neg c1] at hk ⊢
      by_cases c2 : k = i
      · rw [if_pos c2] at hk ⊢; exact ⟨j, by rw [hj]; exact hk, rfl⟩
      · rw [if_neg c2] at hk ⊢; exact ⟨k, hk, rfl⟩
  obtain ⟨k', k1, k2⟩ := key k h1
  obtain ⟨m', m1, m2⟩ := key m h2
  have := h k' m' z k1 m1
  rw [k2, m2] at this
  revert this
  repeat' split
  all_goals (intro h; omega)
theorem RP.dif (h : RP a b xs ys) (hd : Dif xs) : Dif ys := by
  induction h with
  | refl => exact hd
  | step c1 c2 c3 c4 c5 c6 _ ih => exact ih (hd.swp c5 c6)
/-- A list that is sorted throughout. -/
theorem SoR.pairwise {lt : α → α → Bool} (h : SoR lt 0 xs.length xs) : xs.Pairwise fun x y => lt x y = true := by
  rw [List.pairwise_iff_getElem]
  intro i j hi hj hij
  exact h i j _ _ (Nat.zero_le _) hij hj (List.getElem?_eq_getElem hi) (List.getElem?_eq_getElem hj)
end
end Go.Den

/- What came in, read, with a bound on texts and slices. -/
set_option linter.unusedVariables false
set_option linter.unusedSimpArgs false
namespace Go.Den
open Go
def RdS (P : Program) (H : Heap) (B : Nat) : Nat → TypeId → List Value → Prop
  | 0, _, _ => False
  | f + 1, t, cs => match P.underlying t with
    | some .bool => ∃ b, cs = [.bool b]
    | some (.int k) => ∃ n, cs = [.int k n] ∧ k.min ≤ n ∧ n ≤ k.max
    | some .string => ∃ s, cs = [.string s] ∧ s.size ≤ B
    | some (.slice e) => cs = [.slice none 0 0] ∨ ∃ a len cap, cs = [.slice (some a) len cap] ∧ len ≤ cap ∧ cap ≤ maxLen ∧ len * P.bytesOf e ≤ B ∧ ∀ i, i < len → ∃ es, cellsOn H (a.add (i * P.cellsOf e)) (P.cellsOf e) es ∧ RdS P H B f e es
    | some (.struct fs) => cs.length = P.cellsOf t ∧ ∀ x ∈ fs.toList, RdS P H B f x.type ((cs.drop x.offset).take (P.cellsOf x.type))
    | some (.pointer e) => cs = [.pointer none] ∨ ∃ a, cs = [.pointer (some a)] ∧ ∃ es, cellsOn H a (P.cellsOf e) es ∧ RdS P H B f e es
    | _ => True
theorem mapM_get {α β : Type} {f : α → Option β} : ∀ {l : List α} {xs : List β}, l.mapM f = some xs → xs.length = l.length ∧ ∀ (j : Nat) (a : α), l[j]? = some a → ∃ y, f a = some y ∧ xs[j]? = some y := by
  intro l
  induction l with
  | nil => intro xs h; simp at h; subst h; exact ⟨rfl, fun j a h => by simp at h⟩
  | cons b l ih =>
    intro xs h
    simp only [List.mapM_cons, Option.bind_eq_bind, Option.pure_def] at h
    cases hf : f b with
    | none => simp [hf] at h
    | some y =>
      cases hr : l.mapM f with
      | none => simp [hf, hr] at h
      | some ys =>
        simp [hf, hr] at h
        subst h
        obtain ⟨h1, h2⟩ := ih hr
        refine ⟨by simp [h1], fun j a hj => ?_⟩
        cases j with
        | zero => simp at hj; subst hj; exact ⟨y, hf, rfl⟩
        | succ j => simp at hj; obtain ⟨z, h3, h4⟩ := h2 j a hj; exact ⟨z, h3, by simpa using h4⟩
theorem weightsAll_mem {K : Type} {P : Program} {e : TypeId} {d : DataW K} {n : Nat} (hn : n ∈ d.weights P e) : ∀ {l : List (DataW K)}, d ∈ l → n ∈ DataW.weightsAll P e l
  | [], h => by cases h
  | x :: l, h => by
    rw [DataW.weightsAll, List.mem_append]
    rcases List.mem_cons.1 h with rfl | h
    · exact .inl hn
    · exact .inr (weightsAll_mem hn h)
theorem rdS_of_trod {K : Type} {enc : TypeId × Value → K} {P : Program} {w : World} {sp : Nat → Bool} {B : Nat} : ∀ {f : Nat} {t : TypeId} {cs : List Value} {r : DataW K × List MemPlace}, DataW.trod enc P w 0 sp true f t cs = some r → (∀ n ∈ r.1.weights P t, n ≤ B) → RdS P w.heap B f t cs := by
  intro f
  induction f with
  | zero => intro t cs r h; cases h
  | succ f ih =>
    intro t cs r h hw
    unfold DataW.trod at h
    unfold RdS
    split at h
    all_goals (first | (rename_i hu _; simp only [hu]) | (rename_i hu; simp only [hu]) | skip)
    all_goals try trivial
    · exact ⟨_, rfl⟩
    · rename_i k k' n
      split at h
      · rename_i hc
        obtain ⟨rfl, hw⟩ := hc
        simp [Lit.wf] at hw
        exact ⟨n, rfl, hw.1, hw.2⟩
      · cases h
    · rename_i s
      split at h
      · rename_i hs
        cases h
        refine ⟨s, rfl, ?_⟩
        have := hw s.data.toList.length (by simp [DataW.weights])
        exact this
      · cases h
    · exact .inl trivial
    · rename_i e a
      cases hc : w.cells? 0 a (P.cellsOf e) with
      | none => simp [hc] at h
      | some es =>
        simp [hc] at h
        obtain ⟨x, y, h1, rfl⟩ := h
        exact .inr ⟨a, rfl, es, cells?_on hc, ih h1 (fun n hn => hw n (by simp only [DataW.weights, hu]; exact hn))⟩
    · exact .inl trivial
    · rename_i e a len cap
      simp only at h
      split at h
      · rename_i hb
        cases hm : (List.range len).mapM (fun i => (w.cells? 0 (a.add (i * P.cellsOf e)) (P.cellsOf e)).bind (DataW.trod enc P w 0 sp true f e)) with
        | none => simp [hm] at h
        | some els =>
          rw [hm] at h
          simp only [Option.bind_some, Option.map_eq_some_iff] at h
          obtain ⟨rest, hrest, rfl⟩ := h
          obtain ⟨h1, h2⟩ := mapM_range hm
          refine .inr ⟨a, len, cap, rfl, hb.2.1, hb.2.2, ?_, fun i hi => ?_⟩
          · have := hw (((els.map (·.1)).length + (rest.map (·.1)).length) * P.bytesOf e) (by simp only [DataW.weights, hu]; exact List.mem_cons_self ..)
            rw [List.length_map, h1] at this
            exact Nat.le_trans (Nat.mul_le_mul_right _ (Nat.le_add_right ..)) this
          · obtain ⟨x, h3, h4⟩ := h2 i hi
            cases hc : w.cells? 0 (a.add (i * P.cellsOf e)) (P.cellsOf e) with
            | none => simp [hc] at h3
            | some es =>
              simp [hc] at h3
              refine ⟨es, cells?_on hc, ih h3 fun n hn => hw n ?_⟩
              simp only [DataW.weights, hu]
              refine List.mem_cons_of_mem _ (List.mem_append_left _ (weightsAll_mem hn ?_))
              exact List.mem_map_of_mem (List.mem_of_getElem? h4)
      · cases h
    · rename_i cs _ _ fs
      split at h
      · rename_i hl
        cases hm : fs.toList.mapM (fun f' => DataW.trod enc P w 0 sp true f f'.type ((cs.drop f'.offset).take (P.cellsOf f'.type))) with
        | none => simp [hm] at h
        | some els =>
          rw [hm] at h
          simp only [Option.map_some, Option.some.injEq] at h
          subst h
          obtain ⟨_, h2⟩ := mapM_get hm
          refine ⟨hl, fun x hx => ?_⟩
          obtain ⟨j, hj⟩ := List.getElem?_of_mem hx
          obtain ⟨y, h3, h4⟩ := h2 j x hj
          refine ih h3 fun n hn => hw n ?_
          simp only [DataW.weights, hu]
          refine DataW.weights_mem_each (j := j) (t := x.type) (d := y.1) ?_ ?_ n hn
          · rw [List.getElem?_map, hj]; rfl
          · rw [List.getElem?_map, h4]; rfl
      · cases h
section
variable {P : Program} {H : Heap} {B : Nat} {f : Nat} {t e : TypeId} {cs : List Value}
theorem rdS_pos (h : RdS P H B f t cs) : ∃ g, f = g + 1 := by cases f with | zero => exact h.elim | succ g => exact ⟨g, rfl⟩
theorem rdS_struct (h : RdS P H B f t cs) {k : Nat} {fs : List (TypeId × Nat)} (hs : structB P t = true) (hk : P.cellsOf t = k) (hf : fieldsOf P t = fs) : ∃ g, cs.length = k ∧ partsOk (P := P) (RdS P H B g) cs fs := by
  obtain ⟨g, rfl⟩ := rdS_pos h
  unfold structB at hs
  unfold fieldsOf at hf
  unfold RdS at h
  split at hs
  · rename_i xs hu
    rw [hu] at h hf
    obtain ⟨h1, h2⟩ := h
    refine ⟨g, h1.trans hk, ?_⟩
    dsimp only at hf
    subst hf
    have key : ∀ (l : List Field), (∀ x ∈ l, RdS P H B g x.type ((cs.drop x.offset).take (P.cellsOf x.type))) → partsOk (P := P) (RdS P H B g) cs (l.map fun x => (x.type, x.offset)) := by
      intro l
      induction l with
      | nil => intro _; trivial
      | cons x l ih => intro h; exact ⟨h x (List.mem_cons_self ..), ih fun y hy => h y (List.mem_cons_of_mem _ hy)⟩
    exact key _ h2
  · cases hs
theorem rdS_int (h : RdS P H B f t cs) {k : IntKind} (hu : P.underlying t = some (.int k)) : ∃ n, cs = [.int k n] ∧ k.min ≤ n ∧ n ≤ k.max := by
  obtain ⟨g, rfl⟩ := rdS_pos h
  unfold RdS at h; rw [hu] at h; exact h
theorem rdS_bool (h : RdS P H B f t cs) (hu : P.underlying t = some .bool) : ∃ b, cs = [.bool b] := by
  obtain ⟨g, rfl⟩ := rdS_pos h
  unfold RdS at h; rw [hu] at h; exact h
theorem rdS_str (h : RdS P H B f t cs) (hu : P.underlying t = some .string) : ∃ s, cs = [.string s] ∧ s.size ≤ B := by
  obtain ⟨g, rfl⟩ := rdS_pos h
  unfold RdS at h; rw [hu] at h; exact h
/-- A slice that came in, as a list of records. -/
theorem rdS_slice {α : Type} {fl : α → List Value} {z : Nat} (h : RdS P H B f t cs) (hu : P.underlying t = some (.slice e)) (hz : P.cellsOf e = z) {good : α → Prop}
    (hd : ∀ g es, RdS P H B g e es → ∃ x, es = fl x ∧ good x) : ∃ p n c l, cs = [.slice p n c] ∧ n = l.length ∧ n ≤ c ∧ c ≤ maxLen ∧ n * P.bytesOf e ≤ B ∧ RowsAt fl z H p l ∧ ∀ x ∈ l, good x := by
  obtain ⟨g, rfl⟩ := rdS_pos h
  unfold RdS at h
  rw [hu] at h
  rcases h with h | ⟨a, n, c, h, h1, h2, h2b, h3⟩
  · exact ⟨none, 0, 0, [], h, rfl, Nat.le_refl _, Nat.zero_le _, by simp, .inl rfl, by simp⟩
  · have key : ∀ m, m ≤ n → ∃ l : List α, l.length = m ∧ (∀ x ∈ l, good x) ∧ ∀ (i : Nat) (x : α), l[i]? = some x → ∀ (j : Nat) (v : Value), (fl x)[j]? = some v → hcell H ((a.add (i * z)).add j) = some v := by
      intro m
      induction m with
      | zero => intro _; exact ⟨[], rfl, by simp, by simp⟩
      | succ m ih =>
        intro hm
        obtain ⟨l, k1, k2, k3⟩ := ih (by omega)
        obtain ⟨es, k4, k5⟩ := h3 m (by omega)
        obtain ⟨x, rfl, gx⟩ := hd _ _ k5
        refine ⟨l ++ [x], by simp [k1], ?_, ?_⟩
        · intro y hy
          rcases List.mem_append.1 hy with hy | hy
          · exact k2 y hy
          · simp at hy; subst hy; exact gx
        · intro i y hi j v hj
          rcases Nat.lt_trichotomy i l.length with hl | hl | hl
          · rw [List.getElem?_append_left hl] at hi
            exact k3 i y hi j v hj
          · subst hl
            simp at hi
            subst hi
            have := k4.2 j v hj
            rw [hz] at this
            rwa [k1]
          · rw [List.getElem?_eq_none (by simp; omega)] at hi; cases hi
    obtain ⟨l, k1, k2, k3⟩ := key n (Nat.le_refl _)
    exact ⟨some a, n, c, l, h, k1.symm, h1, h2, h2b, .inr ⟨a, rfl, k3⟩, k2⟩
end
section
variable {P : Program} {H : Heap} {B f : Nat} {t e : TypeId} {cs : List Value}
theorem rdS_struct1 {f2 : Nat} (hf2 : f2 = f + 1) (h : RdS P H B f2 t cs) {k : Nat} {fs : List (TypeId × Nat)} (hs : structB P t = true) (hk : P.cellsOf t = k) (hf : fieldsOf P t = fs) : cs.length = k ∧ partsOk (P := P) (RdS P H B f) cs fs := by
  subst hf2
  unfold structB at hs
  unfold fieldsOf at hf
  unfold RdS at h
  split at hs
  · rename_i xs hu
    rw [hu] at h hf
    obtain ⟨h1, h2⟩ := h
    refine ⟨h1.trans hk, ?_⟩
    dsimp only at hf
    subst hf
    have key : ∀ (l : List Field), (∀ x ∈ l, RdS P H B f x.type ((cs.drop x.offset).take (P.cellsOf x.type))) → partsOk (P := P) (RdS P H B f) cs (l.map fun x => (x.type, x.offset)) := by
      intro l
      induction l with
      | nil => intro _; trivial
      | cons x l ih => intro h; exact ⟨h x (List.mem_cons_self ..), ih fun y hy => h y (List.mem_cons_of_mem _ hy)⟩
    exact key _ h2
  · cases hs
/-- A slice that came in, as a list of records. -/
theorem rdS_slice1 {α : Type} {fl : α → List Value} {z f2 : Nat} (hf2 : f2 = f + 1) (h : RdS P H B f2 t cs) (hu : P.underlying t = some (.slice e)) (hz : P.cellsOf e = z) {good : α → Prop}
    (hd : ∀ es, RdS P H B f e es → ∃ x, es = fl x ∧ good x) : ∃ p n c l, cs = [.slice p n c] ∧ n = l.length ∧ n ≤ c ∧ c ≤ maxLen ∧ n * P.bytesOf e ≤ B ∧ RowsAt fl z H p l ∧ ∀ x ∈ l, good x := by
  subst hf2
  unfold RdS at h
  rw [hu] at h
  rcases h with h | ⟨a, n, c, h, h1, h2, h2b, h3⟩
  · exact ⟨none, 0, 0, [], h, rfl, Nat.le_refl _, Nat.zero_le _, by simp, .inl rfl, by simp⟩
  · have key : ∀ m, m ≤ n → ∃ l : List α, l.length = m ∧ (∀ x ∈ l, good x) ∧ ∀ (i : Nat) (x : α), l[i]? = some x → ∀ (j : Nat) (v : Value), (fl x)[j]? = some v → hcell H ((a.add (i * z)).add j) = some v := by
      intro m
      induction m with
      | zero => intro _; exact ⟨[], rfl, by simp, by simp⟩
      | succ m ih =>
        intro hm
        obtain ⟨l, k1, k2, k3⟩ := ih (by omega)
        obtain ⟨es, k4, k5⟩ := h3 m (by omega)
        obtain ⟨x, rfl, gx⟩ := hd _ k5
        refine ⟨l ++ [x], by simp [k1], ?_, ?_⟩
        · intro y hy
          rcases List.mem_append.1 hy with hy | hy
          · exact k2 y hy
          · simp at hy; subst hy; exact gx
        · intro i y hi j v hj
          rcases Nat.lt_trichotomy i l.length with hl | hl | hl
          · rw [List.getElem?_append_left hl] at hi
            exact k3 i y hi j v hj
          · subst hl
            simp at hi
            subst hi
            have := k4.2 j v hj
            rw [hz] at this
            rwa [k1]
          · rw [List.getElem?_eq_none (by simp; omega)] at hi; cases hi
    obtain ⟨l, k1, k2, k3⟩ := key n (Nat.le_refl _)
    exact ⟨some a, n, c, l, h, k1.symm, h1, h2, h2b, .inr ⟨a, rfl, k3⟩, k2⟩
theorem RdS.mono : ∀ {f : Nat} {t : TypeId} {cs : List Value}, RdS P H B f t cs → RdS P H B (f + 1) t cs
  | 0, _, _, h => h.elim
  | f + 1, t, cs, h => by
    unfold RdS at h ⊢
    cases hu : P.underlying t with
    | none => trivial
    | some d =>
      rw [hu] at h
      cases d <;> first
        | exact h
        | (rcases h with h | ⟨a, n, c, h, h1, h2, h3, h4⟩
           · exact .inl h
           · refine .inr ⟨a, n, c, h, h1, h2, h3, fun i hi => ?_⟩
             obtain ⟨es, k1, k2⟩ := h4 i hi
             exact ⟨es, k1, RdS.mono k2⟩)
        | exact ⟨h.1, fun x hx => RdS.mono (h.2 x hx)⟩
        | (rcases h with h | ⟨a, h, es, h1, h2⟩
           · exact .inl h
           · exact .inr ⟨a, h, es, h1, RdS.mono h2⟩)
theorem RdS.le {f g : Nat} (h : RdS P H B f t cs) (hl : f ≤ g) : RdS P H B g t cs := by
  induction g with
  | zero => have : f = 0 := by omega
            subst this; exact h
  | succ g ih =>
    rcases Nat.lt_or_ge g f with h1 | h1
    · have : f = g + 1 := by omega
      subst this; exact h
    · exact (ih h1).mono
end
end Go.Den

set_option linter.unusedVariables false
set_option linter.unusedSimpArgs false
set_option linter.unnecessarySimpa false
namespace Go.Den
open Go
/-! Two interface values compared, where memory is read for it. -/
section
variable {P : Program} {H : Heap}
theorem rawR_nil {T t : TypeId} {ms : Array (String × TypeId)} {y : Value} {k : Bool → Prop} (hT : P.underlying T = some (.interface ms)) (hk : k false) : rawR P H .eql T .nilIface (.iface t y) k := by
  refine ⟨rfl, rfl, false, ?_, fun cx cy => rfl, hk⟩
  rw [eq_one, Op.equalIn, readV_bind, readV_underlying hT]
  rfl
theorem rawR_ne {T t u : TypeId} {ms : Array (String × TypeId)} {x y : Value} {k : Bool → Prop} (hT : P.underlying T = some (.interface ms)) (hn : t ≠ u) (hk : k false) : rawR P H .eql T (.iface t x) (.iface u y) k := by
  refine ⟨rfl, rfl, false, ?_, fun cx cy => rfl, hk⟩
  rw [eq_one, Op.equalIn, readV_bind, readV_underlying hT]
  simp only [Option.bind_some]
  rw [if_pos hn]
  rfl
theorem rawR_of {T t : TypeId} {ms : Array (String × TypeId)} {x y : Value} {ti : TypeInfo} {b : Bool} {k : Bool → Prop} (hT : P.underlying T = some (.interface ms)) (hi : P.info? t = some ti) (hc : ti.comparable = true) (he : readV P (Op.equalIn 9999 t x y) H = some b) (hk : k b) : rawR P H .eql T (.iface t x) (.iface t y) k := by
  refine ⟨rfl, rfl, b, ?_, fun cx cy => rfl, hk⟩
  rw [eq_one, Op.equalIn, readV_bind, readV_underlying hT]
  simp only [Option.bind_some]
  rw [if_neg (by simp), readV_bind, readV_typeInfo hi, Option.bind_some, if_neg (by rw [hc]; simp)]
  exact he
theorem rawR_str {T t : TypeId} {ms : Array (String × TypeId)} {x y : ByteArray} {ti : TypeInfo} {k : Bool → Prop} (hT : P.underlying T = some (.interface ms)) (hi : P.info? t = some ti) (hc : ti.comparable = true) (hu : P.underlying t = some .string) (hk : k (x == y)) : rawR P H .eql T (.iface t (.string x)) (.iface t (.string y)) k :=
  rawR_of hT hi hc (by rw [Op.equalIn, readV_bind, readV_underlying hu]; rfl) hk
theorem rawR_ptr {T t e : TypeId} {ms : Array (String × TypeId)} {p q : Option Addr} {ti ie : TypeInfo} {k : Bool → Prop} (hT : P.underlying T = some (.interface ms)) (hi : P.info? t = some ti) (hc : ti.comparable = true) (hu : P.underlying t = some (.pointer e)) (hie : P.info? e = some ie) (hz : ie.size ≠ 0) (h : pqD H p q k) : rawR P H .eql T (.iface t (.pointer p)) (.iface t (.pointer q)) k := by
  obtain ⟨b, h1, h2⟩ := pqD.spec hu hie hz h
  rw [eq_one] at h1
  refine rawR_of hT hi hc ?_ h2
  rw [Op.equalIn, readV_bind, readV_underlying hu] at h1 ⊢
  simp only [Option.bind_some] at h1 ⊢
  cases p <;> cases q <;> exact h1
end
section
open Go.Den
/-- The slice grows by records that stand somewhere. -/
theorem Sat.slAppV {α : Type} {f : α → List Value} {E : TypeId} {z : Nat} {p : Option Addr} {n c : Nat} {xs : List α} {H : Heap} {m : List HP} (S : Sat H (sl f E z p n c xs :: m)) {bytes d : Nat} {zs : List Value} {ys : List α} {K : Option Addr → Nat → Nat → Heap → Prop} (hd : ys.length = d) (hys : ∀ y ∈ ys, (f y).length = z) (hc : ∀ v ∈ ys.flatMap f, isCell v = true)
    (hzs : zs.length = z) (hb : bytes ≠ 0) (hs : (2 * (n + d) + 768) * bytes ≤ 2 ^ 48) (k : ∀ p' c' H1, Sat H1 (sl f E z p' (n + d) c' (xs ++ ys) :: m) → K p' (n + d) c' H1) : apV H z bytes zs E p n c d (ys.flatMap f) K := by
  obtain ⟨a1, a2, a3, a4⟩ := S.slOpen
  have hall : ∀ x ∈ xs ++ ys, (f x).length = z := fun x hx => (List.mem_append.1 hx).elim (a2 x) (hys x)
  have hlen : (xs ++ ys).length = n + d := by simp [a1, hd]
  have hyl : (ys.flatMap f).length = d * z := by rw [flat_len hys, hd]
  have hxl : (xs.flatMap f).length = n * z := by rw [flat_len a2, a1]
  refine ⟨?_, ?_⟩
  · intro hle
    rcases a4 with ⟨rfl, rfl, S1⟩ | ⟨r, pre, sp, rfl, hl, S1⟩
    · have hd0 : d = 0 := by omega
      have hn0 : n = 0 := by omega
      subst hd0; subst hn0
      have ex : xs = [] := List.eq_nil_of_length_eq_zero a1
      have ey : ys = [] := List.eq_nil_of_length_eq_zero hd
      subst ex; subst ey
      simp only [stP]
      exact k _ _ _ (S1.to (Ent.slNil .refl))
    · simp only [stP]
      rw [add_mk]
      have hroom : (ys.flatMap f).length ≤ sp.length := by rw [hyl]; exact Nat.le_trans (Nat.mul_le_mul_right z (by omega)) hl
      refine stCs_front (o := pre.length + n * z) (ys.flatMap f) 0 H _ S1 hc (by simp only [List.length_append, hxl]; omega) ?_
      intro H1 S2
      rw [Nat.add_zero, ← hxl, pre_seg hroom, ← List.flatMap_append] at S2
      refine k _ _ _ (S2.to (Ent.slClose hlen hall hle rfl ?_))
      rw [List.length_drop, hyl]
      have : (c - (n + d)) * z + d * z ≤ (c - n) * z := by rw [← Nat.add_mul]; exact Nat.mul_le_mul_right z (by omega)
      omega
  · intro hlt
    refine ⟨hb, ?_, ?_⟩
    · have := nextcap_le (n := n + d) (c := c) hlt
      exact Nat.le_trans (Nat.mul_le_mul_right _ this) hs
    · rcases a4 with ⟨rfl, rfl, S1⟩ | ⟨r, pre, sp, rfl, hl, S1⟩
      · have hn0 : n = 0 := by omega
        subst hn0
        have ex : xs = [] := List.eq_nil_of_length_eq_zero a1
        subst ex
        refine ⟨[], by simp, fun j v h => by simp at h, fun cap hcap => k _ _ _ ?_⟩
        have S2 := S1.push (.cells ⟨[] ++ ([] ++ ys).flatMap f ++ repZ zs (cap - (0 + d))⟩ E)
        simp only [List.nil_append] at S2 ⊢
        refine S2.to (Ent.slClose (pre := []) (by simpa using hd) (by simpa using hall) hcap rfl ?_)
        rw [repZ_length, hzs]; exact Nat.le_refl _
      · refine ⟨xs.flatMap f, hxl, ?_, fun cap hcap => k _ _ _ ?_⟩
        · intro j v hj
          refine ⟨_, rfl, ?_⟩
          rw [add_mk]
          refine hcell_of (S1.at_ (List.mem_cons_self ..)) ?_
          rw [List.append_assoc, List.getElem?_append_right (by omega), Nat.add_sub_cancel_left, List.getElem?_append_left]
          · exact hj
          · rcases Nat.lt_or_ge j (xs.flatMap f).length with h | h
            · exact h
            · rw [List.getElem?_eq_none h] at hj; cases hj
        · have S2 := S1.push (.cells ⟨[] ++ (xs ++ ys).flatMap f ++ repZ zs (cap - (n + d))⟩ E)
          have e : (xs.flatMap f ++ ys.flatMap f ++ repZ zs (cap - (n + d))) = [] ++ (xs ++ ys).flatMap f ++ repZ zs (cap - (n + d)) := by simp
          rw [e]
          have S3 : Sat (H.push (.cells ⟨[] ++ (xs ++ ys).flatMap f ++ repZ zs (cap - (n + d))⟩ E)) (sl f E z (some ⟨H.size, 0, none⟩) (n + d) cap (xs ++ ys) :: pt r (.cells ⟨pre ++ xs.flatMap f ++ sp⟩ E) :: m) := by
            refine S2.to (Ent.slClose (pre := []) hlen hall hcap rfl ?_)
            rw [repZ_length, hzs]; exact Nat.le_refl _
          exact S3.to (Ent.cons (Ent.drop .refl))
/-- append(s, make([]T, k)...). -/
theorem appendZ.sem {P : Program} {H : Heap} {T Tx e : TypeId} {ie : TypeInfo} {kd : IntKind} {zs : List Value} {p : Option Addr} {n c k : Nat} {ts : List TypeId} {rs : List Value} {ty : TypeId} {K : Value → Heap → Prop} {Q : Value → Heap → Prop}
    (ht : P.underlying T = some (.slice e)) (hie : P.info? e = some ie) (hz : zeroL P e = some zs) (htx : P.underlying Tx = some (.int kd)) (hk1 : (k : Int) < 9223372036854775808) (hk2 : (k : Int) * ie.bytes ≤ 2 ^ 48) (hsz : k * ie.size ≠ 0) (hnm : ((n + k : Nat) : Int) ≤ IntKind.i64.max)
    (h : apV H ie.size ie.bytes zs e p n c k (repZ zs k) fun p n c H1 => K (.slice p n c) H1) :
    SemH P (Builtin.append_ ⟨T :: Tx :: ts⟩ ty ⟨.slice p n c :: .int kd k :: rs⟩) H K Q := by
  obtain ⟨z, h1, h2⟩ := zeroL.sem hz
  obtain ⟨ha, hb⟩ := h
  unfold Builtin.append_
  show SemH P (underlying T >>= _) H K Q
  rw [SemH_bind]
  refine semH_of_pure (pureV_underlying ht) ?_
  show SemH P (sizeOf e >>= _) H K Q
  rw [SemH_bind]
  refine semH_of_pure (pureV_sizeOf hie) ?_
  rw [cellsOf_info hie]
  show SemH P (underlying Tx >>= _) H K Q
  rw [SemH_bind]
  refine semH_of_pure (pureV_underlying htx) ?_
  have hw : IntKind.i64.wrap (k : Int) = k := wr64 (by omega) hk1
  have key : ∀ (g : Nat → Sem Value), SemH P (g k) H K Q → SemH P (do
      let l := IntKind.i64.wrap (k : Int)
      if l < 0 then runtimePanic (.error "makeslice: len out of range")
      if l * (← typeInfo e).bytes > 2 ^ 48 then
        let made ← choose (.extern "append.ofMake.carriedOut" 2)
        runtimePanic (.error (if made == 1 then "makeslice: len out of range" else "growslice: len out of range"))
      g l.toNat) H K Q := by
    intro g hg
    rw [hw]
    simp only
    rw [if_neg (by omega)]
    show SemH P (typeInfo e >>= _) H K Q
    rw [SemH_bind]
    refine semH_of_pure (pureV_typeInfo hie) ?_
    rw [if_neg (by omega)]
    exact hg
  refine key (fun m => _) ?_
  have e0 : (IntKind.i64.wrap (kd, (k : Int)).snd).toNat = k := by show (IntKind.i64.wrap (k : Int)).toNat = k; rw [hw]; rfl
  rw [SemH_bind, SemH_pure, e0]
  simp only [Bool.not_true, Bool.false_eq_true, if_false, if_neg hsz]
  by_cases hle : n + k ≤ c
  · rw [if_pos hle]
    rw [SemH_bind, SemH_bind]
    refine semH_of_pure h1 ?_
    rw [h2, zeroCells_repZ]
    have ha := ha hle
    cases p with
    | none => exact ha
    | some a =>
      show SemH P (storeCells (a.add (n * ie.size)) (repZ zs k) >>= _) H K Q
      rw [SemH_bind]
      exact stCs.sem (vs := repZ zs k) ha
  · rw [if_neg hle]
    obtain ⟨hby, hcap, old, ho1, ho2, hk⟩ := hb (by omega)
    show SemH P (typeInfo e >>= _) H K Q
    rw [SemH_bind]
    refine semH_of_pure (pureV_typeInfo hie) ?_
    rw [if_neg (by intro hh; have := hh.1; omega)]
    show SemH P (typeInfo e >>= _) H K Q
    rw [SemH_bind]
    refine semH_of_pure (pureV_typeInfo hie) ?_
    rw [if_neg (by omega)]
    show SemH P (choose (Question.appendCap (n + k) c e) >>= _) H K Q
    rw [SemH_bind]
    intro t
    have hge : n + k ≤ (if (Question.appendCap (n + k) c e).forced then 0 else (Question.appendCap (n + k) c e).cut t) := by
      simp only [Question.forced, Bool.false_eq_true, if_false, Question.cut]; omega
    generalize (if (Question.appendCap (n + k) c e).forced then 0 else (Question.appendCap (n + k) c e).cut t) = cap at hge ⊢
    show SemH P (typeInfo e >>= _) H K Q
    rw [SemH_bind]
    refine semH_of_pure (pureV_typeInfo hie) ?_
    rw [SemH_bind]
    refine askRoom.sem ?_
    rw [SemH_bind]
    refine firstCells.sem (vs := old) (n := n) (x := .slice p n c) ⟨ho1, ho2⟩ ?_
    rw [SemH_bind, SemH_bind]
    refine semH_of_pure h1 ?_
    rw [h2, zeroCells_repZ, SemH_pure]
    rw [SemH_bind]
    refine semH_of_pure h1 ?_
    rw [h2, zeroCells_repZ]
    rw [SemH_bind]
    refine newRow.sem ?_
    rw [SemH_pure]
    have e1 : ((⟨old⟩ : Array Value) ++ ⟨repZ zs k⟩ ++ ⟨repZ zs (cap - (n + k))⟩) = ⟨old ++ repZ zs k ++ repZ zs (cap - (n + k))⟩ := by apply Array.ext'; simp
    rw [e1]
    exact hk cap hge
end
end Go.Den
