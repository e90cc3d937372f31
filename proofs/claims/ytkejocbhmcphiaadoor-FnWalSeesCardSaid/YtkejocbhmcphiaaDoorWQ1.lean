/- What functions of this seat do, each proved by a walk; no condition. -/
import Derived.Test.YtkejocbhmcphiaaDoorDenZC
import Derived.Test.YtkejocbhmcphiaaDoorWB
import Derived.Test.YtkejocbhmcphiaaDoorWD
set_option linter.unusedVariables false
set_option linter.unusedSimpArgs false
set_option linter.unnecessarySimpa false
namespace Go.Proofs.YtkejocbhmcphiaaDoor
open Go Go.Den Go.Proofs
/-! Numbers as bytes, as plain numbers. -/
theorem wr8 (n : Nat) : IntKind.wrap .u8 (n : Int) = ((n % 256 : Nat) : Int) := by
  show (if (false && decide ((n : Int) % 256 ≥ 128)) = true then (n : Int) % 256 - 256 else (n : Int) % 256) = _
  simp
theorem wru64 {n : Nat} (h : n < 18446744073709551616) : IntKind.wrap .u64 (n : Int) = (n : Int) := by
  show (if (false && decide ((n : Int) % 18446744073709551616 ≥ 9223372036854775808)) = true then (n : Int) % 18446744073709551616 - 18446744073709551616 else (n : Int) % 18446744073709551616) = _
  simp
  omega
theorem wru32 (n : Nat) : IntKind.wrap .u32 (n : Int) = ((n % 4294967296 : Nat) : Int) := by
  show (if (false && decide ((n : Int) % 4294967296 ≥ 2147483648)) = true then (n : Int) % 4294967296 - 4294967296 else (n : Int) % 4294967296) = _
  simp
theorem ofI {w n : Nat} (h : n < 2 ^ w) : (BitVec.ofInt w (n : Int)).toNat = n := by
  rw [BitVec.toNat_ofInt]
  have : (n : Int) % ((2 ^ w : Nat) : Int) = n := Int.emod_eq_of_lt (by omega) (by exact_mod_cast h)
  rw [this]; rfl
theorem or64 {a b : Nat} (ha : a < 2 ^ 64) (hb : b < 2 ^ 64) : orZ .u64 (a : Int) (b : Int) = ((a ||| b : Nat) : Int) := by
  unfold orZ
  rw [BitVec.toNat_or, ofI (w := IntKind.bits .u64) ha, ofI (w := IntKind.bits .u64) hb, wru64 (Nat.or_lt_two_pow (n := 64) ha hb)]
theorem and64 {a b : Nat} (ha : a < 2 ^ 64) (hb : b < 2 ^ 64) : andZ .u64 (a : Int) (b : Int) = ((a &&& b : Nat) : Int) := by
  unfold andZ
  rw [BitVec.toNat_and, ofI (w := IntKind.bits .u64) ha, ofI (w := IntKind.bits .u64) hb, wru64 (Nat.lt_of_le_of_lt Nat.and_le_left ha)]
theorem or8 {a b : Nat} (ha : a < 2 ^ 8) (hb : b < 2 ^ 8) : orZ .u8 (a : Int) (b : Int) = ((a ||| b : Nat) : Int) := by
  unfold orZ
  rw [BitVec.toNat_or, ofI (w := IntKind.bits .u8) ha, ofI (w := IntKind.bits .u8) hb, wr8, Nat.mod_eq_of_lt (Nat.or_lt_two_pow (n := 8) ha hb)]
theorem and8 {a b : Nat} (ha : a < 2 ^ 8) (hb : b < 2 ^ 8) : andZ .u8 (a : Int) (b : Int) = ((a &&& b : Nat) : Int) := by
  unfold andZ
  rw [BitVec.toNat_and, ofI (w := IntKind.bits .u8) ha, ofI (w := IntKind.bits .u8) hb, wr8, Nat.mod_eq_of_lt (Nat.lt_of_le_of_lt Nat.and_le_left ha)]
theorem or_i64 {a b : Nat} (ha : a < 2 ^ 62) (hb : b < 2 ^ 62) : orZ .i64 (a : Int) (b : Int) = ((a ||| b : Nat) : Int) := by
  unfold orZ
  have h := Nat.or_lt_two_pow (n := 62) ha hb
  rw [BitVec.toNat_or, ofI (w := IntKind.bits .i64) (by show a < 2 ^ 64; omega), ofI (w := IntKind.bits .i64) (by show b < 2 ^ 64; omega), wr64 (by omega) (by omega)]
theorem or_add {a b k : Nat} (h : a % 2 ^ k = 0) (hb : b < 2 ^ k) : a ||| b = a + b := by
  obtain ⟨q, hq⟩ : ∃ q, a = 2 ^ k * q := ⟨a / 2 ^ k, by have := Nat.div_add_mod a (2 ^ k); omega⟩
  rw [hq, Nat.two_pow_add_eq_or_of_lt hb]
theorem or_add' {a b k : Nat} (h : b % 2 ^ k = 0) (ha : a < 2 ^ k) : a ||| b = a + b := by rw [Nat.or_comm, or_add h ha, Nat.add_comm]
theorem shr64 (n j : Nat) (h : j ≤ 64) : shrZ .u64 (n : Int) (j : Int) = ((n / 2 ^ j : Nat) : Int) := by
  show (n : Int).fdiv (2 ^ (min (j : Int).toNat 64)) = _
  rw [show min (j : Int).toNat 64 = j from by omega, Int.fdiv_eq_ediv_of_nonneg _ (Int.pow_nonneg (by omega))]
  simp
theorem shl64 {n j : Nat} (hj : j ≤ 64) (h : n * 2 ^ j < 18446744073709551616) : shlZ .u64 (n : Int) (j : Int) = ((n * 2 ^ j : Nat) : Int) := by
  show IntKind.wrap .u64 ((n : Int) * 2 ^ (min (j : Int).toNat 64)) = _
  rw [show min (j : Int).toNat 64 = j from by omega]
  have : (n : Int) * 2 ^ j = ((n * 2 ^ j : Nat) : Int) := by simp
  rw [this, wru64 h]
/-! Bytes. -/
abbrev bC : UInt8 → List Value := fun b => [.int .u8 (b.toNat : Int)]
def bt (n : Nat) : UInt8 := UInt8.ofNat n
theorem bt_nat (n : Nat) : (bt n).toNat = n % 256 := by simp [bt]
theorem bC_bt (n : Nat) : bC (bt n) = [.int .u8 ((n % 256 : Nat) : Int)] := by unfold bC; rw [bt_nat]
theorem flat_bytes (l : List UInt8) : l.flatMap bC = bytesOf l := by
  induction l with
  | nil => rfl
  | cons b l ih => simp [bytesOf, bC] at ih ⊢; exact ih
/-- A number in pieces of seven bits. -/
def vbF : Nat → Nat → List UInt8
  | 0, _ => []
  | f + 1, m => if m < 128 then [bt m] else bt (m % 128 + 128) :: vbF f (m / 128)
def vb (m : Nat) : List UInt8 := vbF 10 m
theorem vbF_len : ∀ (f m : Nat), (vbF f m).length ≤ f := by
  intro f
  induction f with
  | zero => intro m; simp [vbF]
  | succ f ih =>
    intro m
    unfold vbF
    split
    · simp
    · simp only [List.length_cons]; have := ih (m / 128); omega
theorem vb_len (m : Nat) : (vb m).length ≤ 10 := vbF_len 10 m
theorem vb_small {m : Nat} (h : m < 128) : vb m = [bt m] := by unfold vb vbF; rw [if_pos h]
/-- A number, the least byte first. -/
def le8 (m : Nat) : List UInt8 := (List.range 8).map fun i => bt (m / 2 ^ (8 * i))
theorem le8_len (m : Nat) : (le8 m).length = 8 := by simp [le8]
theorem vb_step {m : Nat} (h : m < 18446744073709551616) : orZ .u8 (IntKind.wrap .u8 (m : Int)) 128 = ((m % 128 + 128 : Nat) : Int) := by
  have h1 : (((m % 256) ||| 128 : Nat)) = m % 128 + 128 := by
    have h2 : m % 256 = 128 * (m % 256 / 128) + m % 128 := by omega
    by_cases h3 : m % 256 < 128
    · rw [show m % 256 = m % 128 by omega, or_add' (k := 7) (by decide) (by omega)]
    · have h4 : m % 256 = 128 + m % 128 := by omega
      rw [h4]
      have h5 : 128 + m % 128 = 128 ||| (m % 128) := (or_add (k := 7) (by decide) (by omega)).symm
      rw [h5, Nat.or_comm 128, Nat.or_assoc, Nat.or_self, or_add' (k := 7) (by decide) (by omega)]
  rw [wr8, show (128 : Int) = ((128 : Nat) : Int) from rfl, or8 (by omega) (by omega), h1]
theorem shr7 (m : Nat) : shrZ .u64 (m : Int) (7 : Int) = ((m / 128 : Nat) : Int) := shr64 m 7 (by omega)
/-! ### The length of a record in its frame -/
def padOf (n : Nat) : Nat := (8 - n % 8) % 8
def lenF (n : Nat) : Nat := if padOf n = 0 then n else n + (128 + padOf n) * 2 ^ 56
theorem padOf_lt (n : Nat) : padOf n < 8 := by unfold padOf; omega
theorem lenF_lt {n : Nat} (h : n < 2 ^ 47) : lenF n < 18446744073709551616 := by
  unfold lenF
  have := padOf_lt n
  split <;> omega
end Go.Proofs.YtkejocbhmcphiaaDoor

set_option linter.unusedVariables false
set_option linter.unusedSimpArgs false
set_option linter.unnecessarySimpa false
namespace Go.Proofs.YtkejocbhmcphiaaDoor
open Go Go.Den Go.Proofs
/-! Bytes that are only read. -/
def pcell (k : PH) (a : Addr) : Option Value :=
  match k a.block with
  | some (.cells c _ _) => if a.spot.isSome then none else c[a.off]?
  | _ => none
theorem pcell_of {H : Heap} {a : Addr} : pcell (PH.of H) a = hcell H a := rfl
theorem pcell_mono {k k' : PH} {a : Addr} {v : Value} (h : PH.sub k k') (e : pcell k a = some v) : pcell k' a = some v := by
  unfold pcell at e ⊢
  cases hb : k a.block with
  | none => rw [hb] at e; cases e
  | some o => rw [hb] at e; rw [h _ _ hb]; exact e
theorem Ent.swp {c d : HP} {l : List HP} : Ent (c :: d :: l) (d :: c :: l) := fun _ a => a.swap
/-- Bytes lie there. -/
def Rd1 (l : List HP) (p : Option Addr) (xs : List UInt8) : Prop := ∀ k, SatP k l → ∀ j b, xs[j]? = some b → ∃ a, p = some a ∧ pcell k (a.add j) = some (.int .u8 (b.toNat : Int))
section
variable {H H1 : Heap} {l m : List HP} {p : Option Addr} {xs : List UInt8} {n c : Nat} {E : TypeId}
theorem Rd1.there {d : HP} (h : Rd1 l p xs) : Rd1 (d :: l) p xs := fun k x => h k x.tail
theorem Rd1.nil : Rd1 l p [] := fun k _ j b h => by simp at h
theorem Rd1.ent (h : Rd1 l p xs) (e : Ent m l) : Rd1 m p xs := fun k x => h k (e k x)
theorem Rd1.take (h : Rd1 l p xs) (i : Nat) : Rd1 l p (xs.take i) := fun k x j b hj => h k x j b (by rw [List.getElem?_take] at hj; split at hj; exact hj; cases hj)
theorem Rd1.drop (h : Rd1 l p xs) (i c : Nat) (hc : xs.length ≤ c) : Rd1 l (slP p i c 1) (xs.drop i) := by
  intro k x j b hj
  rw [List.getElem?_drop] at hj
  obtain ⟨a, rfl, ha⟩ := h k x _ b hj
  have hl : i + j < xs.length := by
    rcases Nat.lt_or_ge (i + j) xs.length with h | h
    · exact h
    · rw [List.getElem?_eq_none h] at hj; cases hj
  unfold slP
  rw [if_neg (by omega)]
  refine ⟨_, rfl, ?_⟩
  rw [Nat.mul_one, add_add']
  exact ha
theorem Rd1.cells (h : Rd1 l p xs) (S : Sat H l) : cellsAt H p (bytesOf xs) := by
  intro j v hj
  unfold bytesOf at hj
  rw [List.getElem?_map] at hj
  cases hx : xs[j]? with
  | none => rw [hx] at hj; cases hj
  | some b =>
    rw [hx] at hj
    cases hj
    exact h _ S.out j b hx
theorem Rd1.bs (h : Rd1 l p xs) (S : Sat H l) {k : ByteArray → Prop} (hn : xs.length = n) (hk : k ⟨⟨xs⟩⟩) : bsD H p n k := ⟨xs, hn, h.cells S, hk⟩
theorem Rd1.idx (h : Rd1 l p xs) (S : Sat H l) {i : Int} {j : Nat} {b : UInt8} {k : Addr → Prop} (hi : i = (j : Int)) (hn : xs.length = n) (hb : xs[j]? = some b) (hk : ∀ a, p = some a → hcell H (a.add (Int.toNat i * 1)) = some (.int .u8 (b.toNat : Int)) → k a) : idxD p n i k := by
  subst hi
  have hl : j < xs.length := by
    rcases Nat.lt_or_ge j xs.length with h | h
    · exact h
    · rw [List.getElem?_eq_none h] at hb; cases hb
  obtain ⟨a, rfl, ha⟩ := h _ S.out j b hb
  refine ⟨by omega, by omega, hk a rfl ?_⟩
  rw [Int.toNat_natCast, Nat.mul_one]
  exact ha
theorem Rd1.of_sl (hm : sl bC E 1 p n c xs ∈ l) : Rd1 l p xs := by
  intro k x j b hj
  obtain ⟨h, ⟨a1, a2, a3, a4⟩, hs⟩ := x.mem hm
  have hl : j < xs.length := by
    rcases Nat.lt_or_ge j xs.length with h | h
    · exact h
    · rw [List.getElem?_eq_none h] at hj; cases hj
  rcases a4 with ⟨rfl, rfl⟩ | ⟨r, pre, sp, rfl, _, hb⟩
  · omega
  · refine ⟨_, rfl, ?_⟩
    rw [add_mk]
    unfold pcell
    rw [hs _ _ hb]
    simp only [Option.isSome_none, Bool.false_eq_true, if_false]
    have hf : (xs.flatMap bC)[j]? = some (.int .u8 (b.toNat : Int)) := by
      rw [flat_bytes]; unfold bytesOf; rw [List.getElem?_map, hj]; rfl
    simp only [List.getElem?_toArray]
    rw [List.append_assoc, List.getElem?_append_right (by omega), Nat.add_sub_cancel_left, List.getElem?_append_left]
    · exact hf
    · rcases Nat.lt_or_ge j (xs.flatMap bC).length with h | h
      · exact h
      · rw [List.getElem?_eq_none h] at hf; cases hf
/-- Bytes at the head of a block of their own. -/
theorem Rd1.of_pt {r : Nat} {rest : List Value} {fr : Nat × Nat} (hm : pt r (.cells ⟨bytesOf xs ++ rest⟩ E fr) ∈ l) : Rd1 l (some ⟨r, 0, none⟩) xs := by
  intro k x j b hj
  obtain ⟨h, hb, hs⟩ := x.mem hm
  refine ⟨_, rfl, ?_⟩
  rw [add_mk]
  unfold pcell
  rw [hs _ _ hb]
  simp only [Option.isSome_none, Bool.false_eq_true, if_false]
  have hf : (bytesOf xs)[j]? = some (.int .u8 (b.toNat : Int)) := by
    unfold bytesOf; rw [List.getElem?_map, hj]; rfl
  simp only [List.getElem?_toArray]
  rw [Nat.zero_add, List.getElem?_append_left]
  · exact hf
  · rcases Nat.lt_or_ge j (bytesOf xs).length with h | h
    · exact h
    · rw [List.getElem?_eq_none h] at hf; cases hf
/-- Bytes are put behind a slice. -/
theorem apB {K : Option Addr → Nat → Nat → Heap → Prop} {q p : Option Addr} {c : Nat} {xs ys : List UInt8} {m : List HP} {d : Nat} (hb : xs.length + ys.length ≤ 140737488351232) (hd : ys.length = d) (S : Sat H (sl bC 5 1 q xs.length c xs :: m)) (R : Rd1 m p ys)
    (k : ∀ q' c' H1, Sat H1 (sl bC 5 1 q' (xs ++ ys).length c' (xs ++ ys) :: m) → K q' (xs ++ ys).length c' H1) : apD H 1 1 [.int .u8 0] 5 q xs.length c p d K := by
  refine S.slApp (ys := ys) (d := d) ?_ hd (by intro y _; rfl) ?_ rfl (by decide) (by omega) fun q' c' H1 S1 => ?_
  · rw [flat_bytes]; exact R.there.cells S
  · intro v hv
    obtain ⟨b, _, hv⟩ := List.mem_flatMap.1 hv
    simp only [bC, List.mem_singleton] at hv
    subst hv; rfl
  · have e : xs.length + d = (xs ++ ys).length := by simp [hd]
    rw [e] at S1 ⊢
    exact k q' c' H1 S1
theorem apB1 {K : Option Addr → Nat → Nat → Heap → Prop} {q : Option Addr} {c r : Nat} {xs : List UInt8} {y : UInt8} {v : Int} {m : List HP} (hv : v = (y.toNat : Int)) (hb : xs.length ≤ 140737488351200) (S : Sat H (sl bC 5 1 q xs.length c xs :: pt r (.cells ⟨[.int .u8 v]⟩ 5) :: m))
    (k : ∀ q' c' H1, Sat H1 (sl bC 5 1 q' (xs ++ [y]).length c' (xs ++ [y]) :: m) → K q' (xs ++ [y]).length c' H1) : apD H 1 1 [.int .u8 0] 5 q xs.length c (some ⟨r, 0, none⟩) 1 K := by
  subst hv
  refine apB (ys := [y]) (by simp; omega) rfl S (Rd1.of_pt (rest := []) (E := 5) (fr := (0, 0)) (List.mem_cons_self ..)) fun q' c' H1 S1 => k q' c' H1 (S1.to (.cons (.drop .refl)))
/-! ### PutVarint -/
theorem putv_loop : ∀ (f m : Nat) (q : Option Addr) (c : Nat) (xs : List UInt8) (H : Heap), m < 128 ^ (f + 1) → m < 18446744073709551616 → xs.length + f ≤ 140737488351100 → Sat H (sl bC 5 1 q xs.length c xs :: l) →
    F65.L0 q xs.length c (m : Int) H (fun e H1 => ∃ q' c', e = .returned (.slice q' (xs ++ vbF (f + 1) m).length c') ∧ Sat H1 (sl bC 5 1 q' (xs ++ vbF (f + 1) m).length c' (xs ++ vbF (f + 1) m) :: l)) := by
  intro f
  induction f with
  | zero =>
    intro m q c xs H hm hm2 hx S
    refine F65.L0_step ?_
    unfold F65.L0n
    refine iteB_f (by simp; omega) ?_
    (repeat (first | (refine Step.go ?_; intros) | refine iteB_t (by decide) ?_ | refine iteB_f (by decide) ?_ | (refine Duo.mk (by first | omega | exact rfl | decide) ?_; intros) | (refine Duo.mk (Clo.mk (by kernel_rfl)) ?_; intros)))
    rename_i r H1 S1
    refine apB1 (y := bt m) (m := l) (v := IntKind.wrap .u8 (m : Int)) (by rw [bt_nat, wr8]) (by omega) (S1.to ?_) fun q' c' H2 S2 => ?_
    · iterate 2 (apply Ent.pick; (focus (repeat (first | exact Sel.here | apply Sel.there))))
      exact Ent.refl
    · have e : vbF (0 + 1) m = [bt m] := by unfold vbF; rw [if_pos (by omega)]
      rw [e]
      exact ⟨q', c', rfl, S2⟩
  | succ f ih =>
    intro m q c xs H hm hm2 hx S
    refine F65.L0_step ?_
    unfold F65.L0n
    refine iteB_i (fun h => ?_) (fun h => ?_)
    · have h := of_decide_eq_true h
      rw [vb_step hm2]
      (repeat (first | (refine Step.go ?_; intros) | refine iteB_t (by decide) ?_ | refine iteB_f (by decide) ?_ | (refine Duo.mk (by first | omega | exact rfl | decide) ?_; intros) | (refine Duo.mk (Clo.mk (by kernel_rfl)) ?_; intros)))
      rename_i r H1 S1
      refine apB1 (y := bt (m % 128 + 128)) (m := l) (v := ((m % 128 + 128 : Nat) : Int)) (by rw [bt_nat]; omega) (by omega) (S1.to ?_) fun q' c' H2 S2 => ?_
      · iterate 2 (apply Ent.pick; (focus (repeat (first | exact Sel.here | apply Sel.there))))
        exact Ent.refl
      · refine ⟨by decide, ?_⟩
        rw [shr7]
        have e : vbF (f + 1 + 1) m = bt (m % 128 + 128) :: vbF (f + 1) (m / 128) := by rw [vbF]; rw [if_neg (by omega)]
        have := ih (m / 128) q' c' (xs ++ [bt (m % 128 + 128)]) H2 (by rw [Nat.pow_succ] at hm; omega) (by omega) (by simp; omega) S2
        rw [e]
        have e2 : xs ++ [bt (m % 128 + 128)] ++ vbF (f + 1) (m / 128) = xs ++ bt (m % 128 + 128) :: vbF (f + 1) (m / 128) := by simp
        rw [e2] at this
        exact this
    · have h := of_decide_eq_false h
      (repeat (first | (refine Step.go ?_; intros) | refine iteB_t (by decide) ?_ | refine iteB_f (by decide) ?_ | (refine Duo.mk (by first | omega | exact rfl | decide) ?_; intros) | (refine Duo.mk (Clo.mk (by kernel_rfl)) ?_; intros)))
      rename_i r H1 S1
      refine apB1 (y := bt m) (m := l) (v := IntKind.wrap .u8 (m : Int)) (by rw [bt_nat, wr8]) (by omega) (S1.to ?_) fun q' c' H2 S2 => ?_
      · iterate 2 (apply Ent.pick; (focus (repeat (first | exact Sel.here | apply Sel.there))))
        exact Ent.refl
      · have e : vbF (f + 1 + 1) m = [bt m] := by rw [vbF]; rw [if_pos (by omega)]
        rw [e]
        exact ⟨q', c', rfl, S2⟩
theorem putv_ok {m : Nat} {q : Option Addr} {c : Nat} {xs : List UInt8} {v : Int} (hv : v = (m : Int)) (hm : m < 18446744073709551616) (hx : xs.length ≤ 140737488351000) (S : Sat H (sl bC 5 1 q xs.length c xs :: l)) :
    CallsH Tryd.prog 65 ⟨[.slice q xs.length c, .int .u64 v]⟩ H (fun e H1 => ∃ q' c', e = .returned (.slice q' (xs ++ vb m).length c') ∧ Sat H1 (sl bC 5 1 q' (xs ++ vb m).length c' (xs ++ vb m) :: l)) := by
  subst hv
  refine F65.calls ?_
  unfold F65.go
  exact putv_loop 9 m q c xs H (by omega) hm (by omega) S
end
end Go.Proofs.YtkejocbhmcphiaaDoor

set_option linter.unusedVariables false
set_option linter.unusedSimpArgs false
set_option linter.unnecessarySimpa false
namespace Go.Proofs.YtkejocbhmcphiaaDoor
open Go Go.Den Go.Proofs
/-! The sum of bytes. -/
abbrev W32 := BitVec 32
abbrev iv (c : W32) : Int := (c.toNat : Int)
theorem iv_ofI (c : W32) : BitVec.ofInt (IntKind.bits .u32) (iv c) = c := by
  show BitVec.ofInt 32 (c.toNat : Int) = c
  rw [BitVec.ofInt_natCast, BitVec.ofNat_toNat, BitVec.setWidth_eq]
theorem xor32 (a b : W32) : xorZ .u32 (iv a) (iv b) = iv (a ^^^ b) := by
  unfold xorZ
  rw [iv_ofI, iv_ofI]
  show IntKind.wrap .u32 (((a ^^^ b : W32).toNat : Nat) : Int) = _
  rw [wru32, Nat.mod_eq_of_lt (a ^^^ b).isLt]
theorem and32 (a b : W32) : andZ .u32 (iv a) (iv b) = iv (a &&& b) := by
  unfold andZ
  rw [iv_ofI, iv_ofI]
  show IntKind.wrap .u32 (((a &&& b : W32).toNat : Nat) : Int) = _
  rw [wru32, Nat.mod_eq_of_lt (a &&& b).isLt]
theorem shr32 (a : W32) : shrZ .u32 (iv a) (1 : Int) = iv (a >>> 1) := by
  show (a.toNat : Int).fdiv (2 ^ (min (1 : Int).toNat 32)) = _
  rw [show min (1 : Int).toNat 32 = 1 from rfl, Int.fdiv_eq_ediv_of_nonneg _ (by decide)]
  unfold iv
  rw [BitVec.toNat_ushiftRight, Nat.shiftRight_eq_div_pow]
  simp
def crcBit (c : W32) : W32 := if c &&& 1#32 = 1#32 then (c >>> 1) ^^^ 0x82f63b78#32 else c >>> 1
def crcBits : Nat → W32 → W32
  | 0, c => c
  | k + 1, c => crcBits k (crcBit c)
def crcByte (c : W32) (b : UInt8) : W32 := crcBits 8 (c ^^^ BitVec.ofNat 32 b.toNat)
def crcUpd (c : W32) (xs : List UInt8) : W32 := BitVec.allOnes 32 ^^^ xs.foldl crcByte (BitVec.allOnes 32 ^^^ c)
theorem iv_byte (b : UInt8) : IntKind.wrap .u32 ((b.toNat : Nat) : Int) = iv (BitVec.ofNat 32 b.toNat) := by
  rw [wru32]; rfl
theorem iv_one : iv 1#32 = 1 := rfl
theorem iv_ones : (IntKind.max .u32) = iv (BitVec.allOnes 32) := rfl
theorem iv_poly : (2197175160 : Int) = iv 0x82f63b78#32 := rfl
theorem iv_inj {a b : W32} : (iv a == iv b) = decide (a = b) := by
  have : (iv a = iv b) ↔ a = b := ⟨fun h => BitVec.eq_of_toNat_eq (by unfold iv at h; omega), fun h => by rw [h]⟩
  rw [Bool.eq_iff_iff]; simp only [beq_iff_eq, decide_eq_true_eq]; exact this
theorem bit_one (c : W32) : (andZ .u32 (iv c) (1 : Int) == (1 : Int)) = decide (c &&& 1#32 = 1#32) := by
  rw [← iv_one, and32, iv_inj]
section
variable {H : Heap} {s b : Option Addr} {bn bc : Nat} {R : Ending → Heap → Prop}
theorem crc_inner (i : Int) : ∀ (d k : Nat) (n : W32), k + d = 8 → F37.L0 s b bn bc (iv (crcBits d n)) (IntKind.wrap .i64 (i + (1 : Int))) H R → F37.L1 s b bn bc (iv n) i (k : Int) H R := by
  intro d
  induction d with
  | zero =>
    intro k n hk h
    refine F37.L1_step ?_
    unfold F37.L1n
    exact iteB_f (by simp; omega) h
  | succ d ih =>
    intro k n hk h
    refine F37.L1_step ?_
    unfold F37.L1n
    refine iteB_t (by simp; omega) ?_
    have e1 : IntKind.wrap .i64 ((k : Int) + (1 : Int)) = ((k + 1 : Nat) : Int) := by rw [wr64 (by omega) (by omega)]; rfl
    have step : F37.L2 s b bn bc (iv (crcBit n)) i (k : Int) H R := by
      refine F37.L2_step ?_
      unfold F37.L2n
      rw [e1]
      exact ih (k + 1) (crcBit n) (by omega) h
    rw [bit_one, shr32, iv_poly, xor32]
    unfold crcBit at step
    by_cases hc : n &&& 1#32 = 1#32
    · rw [if_pos hc] at step
      exact iteB_t (decide_eq_true hc) ⟨by decide, step⟩
    · rw [if_neg hc] at step
      exact iteB_f (decide_eq_false hc) ⟨by decide, step⟩
end
section
variable {H : Heap} {l : List HP} {sb : Nat} {T : TypeId} {p : Option Addr} {pc : Nat} {xs : List UInt8} {c0 : W32}
abbrev smO (c : W32) : Obj := .cells ⟨[.int .u32 (iv c)]⟩ 109
theorem crc_loop (hm : xs.length ≤ 140737488351232) (S : Sat H (pt sb (smO c0) :: l)) (hd : Rd1 l p xs) (m0 : W32) :
    ∀ (d i : Nat), i + d = xs.length → F37.L0 (some ⟨sb, 0, none⟩) p xs.length pc (iv ((xs.take i).foldl crcByte m0)) (i : Int) H (fun e H1 => e = .returned (.tuple ⟨[.int .i64 xs.length, .nilIface]⟩) ∧ Sat H1 (pt sb (smO (BitVec.allOnes 32 ^^^ xs.foldl crcByte m0)) :: l)) := by
  intro d
  induction d with
  | zero =>
    intro i hi
    refine F37.L0_step ?_
    unfold F37.L0n
    refine iteB_f (by simp; omega) ?_
    rw [List.take_of_length_le (by omega), iv_ones, xor32]
    (repeat (first | (refine Step.go ?_; intros) | refine iteB_t (by decide) ?_ | refine iteB_f (by decide) ?_ | (refine Duo.mk (by first | omega | exact rfl | decide) ?_; intros) | (refine Duo.mk (Clo.mk (by kernel_rfl)) ?_; intros)))
    exact ⟨rfl, ‹Sat _ _›⟩
  | succ d ih =>
    intro i hi
    refine F37.L0_step ?_
    unfold F37.L0n
    refine iteB_t (by simp; omega) ?_
    have hx : xs[i]? = some xs[i] := List.getElem?_eq_getElem (by omega)
    refine hd.there.idx S rfl rfl hx fun a ha hc => ?_
    refine ⟨_, hc, ?_⟩
    dsimp only
    rw [iv_byte, xor32]
    refine crc_inner (i : Int) 8 0 _ rfl ?_
    have e1 : IntKind.wrap .i64 ((i : Int) + (1 : Int)) = ((i + 1 : Nat) : Int) := by rw [wr64 (by omega) (by omega)]; rfl
    rw [e1]
    have := ih (i + 1) (by omega)
    rw [List.take_add_one, hx, List.foldl_append] at this
    exact this
theorem crc_ok (hm : xs.length ≤ 140737488351232) (S : Sat H (pt sb (smO c0) :: l)) (hd : Rd1 l p xs) :
    CallsH Tryd.prog 37 ⟨[.pointer (some ⟨sb, 0, none⟩), .slice p xs.length pc]⟩ H (fun e H1 => e = .returned (.tuple ⟨[.int .i64 xs.length, .nilIface]⟩) ∧ Sat H1 (pt sb (smO (crcUpd c0 xs)) :: l)) := by
  refine F37.calls ?_
  unfold F37.go
  (repeat (first | (refine Step.go ?_; intros) | refine iteB_t (by decide) ?_ | refine iteB_f (by decide) ?_ | (refine Duo.mk (by first | omega | exact rfl | decide) ?_; intros) | (refine Duo.mk (Clo.mk (by kernel_rfl)) ?_; intros)))
  rw [iv_ones, xor32]
  exact crc_loop hm S hd _ xs.length 0 (by omega)
theorem sum_ok {A : HP} (S : Sat H (pt sb (smO c0) :: l)) : CallsH Tryd.prog 38 ⟨[.pointer (some ⟨sb, 0, none⟩)]⟩ H (Gives (.int .u32 (iv c0)) H) := by
  refine F38.calls ?_
  unfold F38.go
  (repeat (first | (refine Step.go ?_; intros) | refine iteB_t (by decide) ?_ | refine iteB_f (by decide) ?_ | (refine Duo.mk (by first | omega | exact rfl | decide) ?_; intros) | (refine Duo.mk (Clo.mk (by kernel_rfl)) ?_; intros)))
  exact ⟨rfl, ExtH.refl H⟩
theorem at_ok {n : Int} : CallsH Tryd.prog 33 ⟨[.int .u32 n]⟩ H (fun e H1 => ∃ r : Nat, e = .returned (.pointer (some ⟨r, 0, none⟩)) ∧ Sat H1 ([pt r (.cells ⟨[.int .u32 n]⟩ 109)] ++ [old H])) := by
  have S := Sat.start H
  refine F33.calls ?_
  unfold F33.go
  (repeat (first | (refine Step.go ?_; intros) | refine iteB_t (by decide) ?_ | refine iteB_f (by decide) ?_ | (refine Duo.mk (by first | omega | exact rfl | decide) ?_; intros) | (refine Duo.mk (Clo.mk (by kernel_rfl)) ?_; intros)))
  exact ⟨_, rfl, ‹Sat _ (pt _ _ :: _)›⟩
end
/-! ### PutLittle64 -/
section
variable {H : Heap} {l : List HP} {p : Option Addr} {c m : Nat} {xs : List UInt8}
def le8At (m : Nat) (i : Nat) (xs : List UInt8) : List UInt8 := (le8 m).take i ++ xs.drop i
theorem le_loop (hm : m < 18446744073709551616) (hx : xs.length = 8) : ∀ (d i : Nat) (H : Heap), i + d = 8 → Sat H (sl bC 5 1 p 8 c (le8At m i xs) :: l) → F45.L0 p 8 c (m : Int) (i : Int) H (fun e H1 => e = .returned (.tuple ⟨[]⟩) ∧ Sat H1 (sl bC 5 1 p 8 c (le8 m) :: l)) := by
  intro d
  induction d with
  | zero =>
    intro i H hi S
    refine F45.L0_step ?_
    unfold F45.L0n
    refine iteB_f (by simp; omega) ?_
    have e : le8At m i xs = le8 m := by unfold le8At; rw [List.take_of_length_le (by rw [le8_len]; omega), List.drop_eq_nil_of_le (by omega), List.append_nil]
    rw [e] at S
    exact ⟨rfl, S⟩
  | succ d ih =>
    intro i H hi S
    refine F45.L0_step ?_
    unfold F45.L0n
    refine iteB_t (by simp; omega) ?_
    have e0 : IntKind.wrap .u64 ((8 : Int) * (IntKind.wrap .u64 (i : Int))) = ((8 * i : Nat) : Int) := by
      rw [wru64 (by omega), show (8 : Int) * (i : Int) = ((8 * i : Nat) : Int) by simp, wru64 (by omega)]
    rw [e0, shr64 _ _ (by omega), wr8]
    refine ⟨by omega, ?_⟩
    have hl : (le8At m i xs).length = 8 := by unfold le8At; simp [le8_len, hx]; omega
    obtain ⟨y, hy⟩ : ∃ y, (le8At m i xs)[i]? = some y := get_of (by omega)
    refine Sat.idx S ⟨by omega, by omega, fun r o hr => ?_⟩
    subst hr
    have e1 : (le8At m i xs).set i (bt (m / 2 ^ (8 * i))) = le8At m (i + 1) xs := by
      unfold le8At
      have hb : (le8 m)[i]? = some (bt (m / 2 ^ (8 * i))) := by unfold le8; simp [show i < 8 by omega]
      rw [List.take_add_one, hb, List.set_append_right _ _ (by simp [le8_len]; omega)]
      have e2 : i - ((le8 m).take i).length = 0 := by simp [le8_len]; omega
      have hz : xs[i]? = some xs[i] := List.getElem?_eq_getElem (by omega)
      rw [e2, List.drop_eq_getElem_cons (by omega), List.set_cons_zero]
      simp
    have hj : i * 1 + 0 = i := by omega
    rw [Int.toNat_natCast, Nat.mul_one]
    have := S.slSet (i := i) (j := 0) (x := y) (y := bt (m / 2 ^ (8 * i))) (v := .int .u8 ((m / 2 ^ (8 * i) % 256 : Nat) : Int)) (K := fun H1 => F45.L0 (some ⟨r, o, none⟩) 8 c (m : Int) (IntKind.wrap .i64 ((i : Int) + (1 : Int))) H1 (fun e H1 => e = .returned (.tuple ⟨[]⟩) ∧ Sat H1 (sl bC 5 1 (some ⟨r, o, none⟩) 8 c (le8 m) :: l))) hy (by decide) rfl (by unfold bC; rw [bt_nat]; rfl) (fun H1 S1 => ?_)
    · rw [hj] at this; exact this
    · rw [e1] at S1
      have e3 : IntKind.wrap .i64 ((i : Int) + (1 : Int)) = ((i + 1 : Nat) : Int) := by rw [wr64 (by omega) (by omega)]; rfl
      rw [e3]
      exact ih (i + 1) H1 (by omega) S1
theorem putle_ok (hm : m < 18446744073709551616) (hx : xs.length = 8) (S : Sat H (sl bC 5 1 p 8 c xs :: l)) :
    CallsH Tryd.prog 45 ⟨[.slice p 8 c, .int .u64 (m : Int)]⟩ H (fun e H1 => e = .returned (.tuple ⟨[]⟩) ∧ Sat H1 (sl bC 5 1 p 8 c (le8 m) :: l)) := by
  refine F45.calls ?_
  unfold F45.go
  exact le_loop hm hx 8 0 H rfl (by unfold le8At; simpa using S)
end
end Go.Proofs.YtkejocbhmcphiaaDoor

set_option linter.unusedVariables false
set_option linter.unusedSimpArgs false
set_option linter.unnecessarySimpa false
namespace Go.Proofs.YtkejocbhmcphiaaDoor
open Go Go.Den Go.Proofs
/-! A record as bytes. -/
def u64n (n : Int) : Nat := (n % 18446744073709551616).toNat
theorem u64n_lt (n : Int) : u64n n < 18446744073709551616 := by unfold u64n; omega
theorem wru64_any (n : Int) : IntKind.wrap .u64 n = (u64n n : Int) := by
  show (if (false && decide (n % 18446744073709551616 ≥ 9223372036854775808)) = true then n % 18446744073709551616 - 18446744073709551616 else n % 18446744073709551616) = _
  unfold u64n
  simp
  omega
/-- The protobuf of a record: its type, its sum, its data. -/
def dpart (d : Option (List UInt8)) : List UInt8 := match d with | some ys => bt 26 :: (vb ys.length ++ ys) | none => []
def body (ty : Int) (s : W32) (d : Option (List UInt8)) : List UInt8 := bt 8 :: (vb (u64n ty) ++ (bt 16 :: (vb s.toNat ++ dpart d)))
def dlen (d : Option (List UInt8)) : Nat := match d with | some ys => ys.length | none => 0
theorem body_len (ty : Int) (s : W32) (d : Option (List UInt8)) : (body ty s d).length ≤ 33 + dlen d := by
  unfold body
  have h1 := vb_len (u64n ty)
  have h2 := vb_len s.toNat
  have h3 : (dpart d).length ≤ 11 + dlen d := by
    unfold dpart dlen
    cases d with
    | none => simp
    | some ys => have := vb_len ys.length; simp; omega
  simp only [List.length_cons, List.length_append]
  omega
section
variable {H : Heap} {l : List HP}
theorem or26 : orZ .u64 (shlZ .u64 (IntKind.wrap .u64 (3 : Int)) (3 : Int)) (2 : Int) = ((26 : Nat) : Int) := by decide
theorem putb_ok {q : Option Addr} {c : Nat} {xs : List UInt8} {p : Option Addr} {pc : Nat} {ys : List UInt8} (hx : xs.length + ys.length ≤ 140737488350000) (R : Rd1 l p ys) (S : Sat H (sl bC 5 1 q xs.length c xs :: l)) :
    CallsH Tryd.prog 66 ⟨[.slice q xs.length c, .int .i64 3, .slice p ys.length pc]⟩ H (fun e H1 => ∃ q' c', e = .returned (.slice q' (xs ++ dpart (some ys)).length c') ∧ Sat H1 (sl bC 5 1 q' (xs ++ dpart (some ys)).length c' (xs ++ dpart (some ys)) :: l)) := by
  refine F66.calls ?_
  unfold F66.go
  refine ⟨by decide, ?_⟩
  refine call_of (putv_ok (m := 26) or26 (by decide) (by omega) S) ?_
  rintro e H1 ⟨q1, c1, rfl, S1⟩
  rw [vb_small (by decide)] at S1 ⊢
  (repeat (first | (refine Step.go ?_; intros) | refine iteB_t (by decide) ?_ | refine iteB_f (by decide) ?_ | (refine Duo.mk (by first | omega | exact rfl | decide) ?_; intros) | (refine Duo.mk (Clo.mk (by kernel_rfl)) ?_; intros)))
  have e1 : (xs ++ [bt 26]).length = xs.length + 1 := by simp
  refine call_of (putv_ok (m := ys.length) (wru64 (by omega)) (by omega) (by omega) S1) ?_
  rintro e H2 ⟨q2, c2, rfl, S2⟩
  (repeat (first | (refine Step.go ?_; intros) | refine iteB_t (by decide) ?_ | refine iteB_f (by decide) ?_ | (refine Duo.mk (by first | omega | exact rfl | decide) ?_; intros) | (refine Duo.mk (Clo.mk (by kernel_rfl)) ?_; intros)))
  have h3 := vb_len ys.length
  refine apB (by simp only [List.length_append, List.length_cons, List.length_nil]; omega) rfl S2 R fun q3 c3 H3 S3 => ?_
  have e2 : xs ++ [bt 26] ++ vb ys.length ++ ys = xs ++ dpart (some ys) := by simp [dpart]
  rw [e2] at S3 ⊢
  exact ⟨q3, c3, rfl, S3⟩
/-- A record in memory: its type, its sum, its data. -/
abbrev rcO (t s : Option Addr) (q : Option Addr) (qn qc : Nat) : Obj := .cells ⟨[.pointer t, .pointer s, .slice q qn qc]⟩ 60
/-- Data in memory, or none. -/
def DatR (l : List HP) (q : Option Addr) (qn : Nat) : Option (List UInt8) → Prop
  | none => q = none ∧ qn = 0
  | some ys => q ≠ none ∧ ys.length = qn ∧ Rd1 l q ys
theorem putf_ok {rb tb sb : Nat} {ty : Int} {s : W32} {q : Option Addr} {qn qc : Nat} {d : Option (List UInt8)} (hd : dlen d ≤ 140737488340000) (D : DatR l q qn d)
    (S : Sat H (pt rb (rcO (some ⟨tb, 0, none⟩) (some ⟨sb, 0, none⟩) q qn qc) :: pt tb (.cells ⟨[.int .i64 ty]⟩ 2) :: pt sb (.cells ⟨[.int .u32 (iv s)]⟩ 22) :: l)) :
    CallsH Tryd.prog 63 ⟨[.pointer (some ⟨rb, 0, none⟩)]⟩ H (fun e H1 => ∃ q' c', e = .returned (.slice q' (body ty s d).length c') ∧
      Sat H1 (sl bC 5 1 q' (body ty s d).length c' (body ty s d) :: pt rb (rcO (some ⟨tb, 0, none⟩) (some ⟨sb, 0, none⟩) q qn qc) :: pt tb (.cells ⟨[.int .i64 ty]⟩ 2) :: pt sb (.cells ⟨[.int .u32 (iv s)]⟩ 22) :: l)) := by
  have key1 : ∀ (b : Option Addr) (bc : Nat) (xs : List UInt8) (H : Heap), xs.length ≤ 100 → Sat H (sl bC 5 1 b xs.length bc xs :: pt rb (rcO (some ⟨tb, 0, none⟩) (some ⟨sb, 0, none⟩) q qn qc) :: pt tb (.cells ⟨[.int .i64 ty]⟩ 2) :: pt sb (.cells ⟨[.int .u32 (iv s)]⟩ 22) :: l) →
      F63.L1 (some ⟨rb, 0, none⟩) b xs.length bc H (fun e H1 => ∃ q' c', e = .returned (.slice q' (xs ++ dpart d).length c') ∧
        Sat H1 (sl bC 5 1 q' (xs ++ dpart d).length c' (xs ++ dpart d) :: pt rb (rcO (some ⟨tb, 0, none⟩) (some ⟨sb, 0, none⟩) q qn qc) :: pt tb (.cells ⟨[.int .i64 ty]⟩ 2) :: pt sb (.cells ⟨[.int .u32 (iv s)]⟩ 22) :: l)) := by
    intro b bc xs H hx S
    refine F63.L1_step ?_
    unfold F63.L1n
    (repeat (first | (refine Step.go ?_; intros) | refine iteB_t (by decide) ?_ | refine iteB_f (by decide) ?_ | (refine Duo.mk (by first | omega | exact rfl | decide) ?_; intros) | (refine Duo.mk (Clo.mk (by kernel_rfl)) ?_; intros)))
    cases d with
    | none =>
      obtain ⟨rfl, rfl⟩ := D
      refine iteB_f rfl ?_
      have e : xs ++ dpart none = xs := by simp [dpart]
      rw [e]
      exact ⟨b, bc, rfl, S⟩
    | some ys =>
      obtain ⟨D1, D2, D3⟩ := D
      subst D2
      refine iteB_t (by cases q <;> first | (exact absurd rfl D1) | rfl) ?_
      (repeat (first | (refine Step.go ?_; intros) | refine iteB_t (by decide) ?_ | refine iteB_f (by decide) ?_ | (refine Duo.mk (by first | omega | exact rfl | decide) ?_; intros) | (refine Duo.mk (Clo.mk (by kernel_rfl)) ?_; intros)))
      refine call_of (putb_ok (xs := xs) (ys := ys) (by have h0 : ys.length ≤ 140737488340000 := hd; omega) D3.there.there.there S) ?_
      rintro e H1 ⟨q', c', rfl, S1⟩
      (repeat (first | (refine Step.go ?_; intros) | refine iteB_t (by decide) ?_ | refine iteB_f (by decide) ?_ | (refine Duo.mk (by first | omega | exact rfl | decide) ?_; intros) | (refine Duo.mk (Clo.mk (by kernel_rfl)) ?_; intros)))
      exact ⟨q', c', rfl, S1⟩
  have key0 : ∀ (b : Option Addr) (bc : Nat) (xs : List UInt8) (H : Heap), xs.length ≤ 50 → Sat H (sl bC 5 1 b xs.length bc xs :: pt rb (rcO (some ⟨tb, 0, none⟩) (some ⟨sb, 0, none⟩) q qn qc) :: pt tb (.cells ⟨[.int .i64 ty]⟩ 2) :: pt sb (.cells ⟨[.int .u32 (iv s)]⟩ 22) :: l) →
      F63.L0 (some ⟨rb, 0, none⟩) b xs.length bc H (fun e H1 => ∃ q' c', e = .returned (.slice q' (xs ++ (bt 16 :: (vb s.toNat ++ dpart d))).length c') ∧
        Sat H1 (sl bC 5 1 q' (xs ++ (bt 16 :: (vb s.toNat ++ dpart d))).length c' (xs ++ (bt 16 :: (vb s.toNat ++ dpart d))) :: pt rb (rcO (some ⟨tb, 0, none⟩) (some ⟨sb, 0, none⟩) q qn qc) :: pt tb (.cells ⟨[.int .i64 ty]⟩ 2) :: pt sb (.cells ⟨[.int .u32 (iv s)]⟩ 22) :: l)) := by
    intro b bc xs H hx S
    refine F63.L0_step ?_
    unfold F63.L0n
    (repeat (first | (refine Step.go ?_; intros) | refine iteB_t (by decide) ?_ | refine iteB_f (by decide) ?_ | (refine Duo.mk (by first | omega | exact rfl | decide) ?_; intros) | (refine Duo.mk (Clo.mk (by kernel_rfl)) ?_; intros)))
    refine iteB_t rfl ?_
    have hv := vb_len s.toNat
    have hs : s.toNat < 18446744073709551616 := by have := s.isLt; omega
    have e : xs ++ [bt 16] ++ vb s.toNat ++ dpart d = xs ++ (bt 16 :: (vb s.toNat ++ dpart d)) := by simp
    refine ⟨?_, ?_, ?_⟩
    all_goals
      (repeat (first | (refine Step.go ?_; intros) | refine iteB_t (by decide) ?_ | refine iteB_f (by decide) ?_ | (refine Duo.mk (by first | omega | exact rfl | decide) ?_; intros) | (refine Duo.mk (Clo.mk (by kernel_rfl)) ?_; intros)))
      have S1 := ‹Sat _ (pt _ (.cells ⟨[.int .u8 16]⟩ 5) :: _)›
      refine apB1 (v := (16 : Int)) (y := bt 16) (xs := xs) (m := pt rb (rcO (some ⟨tb, 0, none⟩) (some ⟨sb, 0, none⟩) q qn qc) :: pt tb (.cells ⟨[.int .i64 ty]⟩ 2) :: pt sb (.cells ⟨[.int .u32 (iv s)]⟩ 22) :: l) (by decide) (by omega) (S1.to Ent.swp) fun q1 c1 H2 S2 => ?_
      (repeat (first | (refine Step.go ?_; intros) | refine iteB_t (by decide) ?_ | refine iteB_f (by decide) ?_ | (refine Duo.mk (by first | omega | exact rfl | decide) ?_; intros) | (refine Duo.mk (Clo.mk (by kernel_rfl)) ?_; intros)))
      refine call_of (putv_ok (m := s.toNat) (wru64 hs) hs (by simp; omega) S2) ?_
      rintro e H3 ⟨q2, c2, rfl, S3⟩
      (repeat (first | (refine Step.go ?_; intros) | refine iteB_t (by decide) ?_ | refine iteB_f (by decide) ?_ | (refine Duo.mk (by first | omega | exact rfl | decide) ?_; intros) | (refine Duo.mk (Clo.mk (by kernel_rfl)) ?_; intros)))
      have := key1 q2 c2 (xs ++ [bt 16] ++ vb s.toNat) H3 (by simp; omega) S3
      rw [‹xs ++ [bt 16] ++ vb s.toNat ++ dpart d = _›] at this
      exact this
  refine F63.calls ?_
  unfold F63.go
  (repeat (first | (refine Step.go ?_; intros) | refine iteB_t (by decide) ?_ | refine iteB_f (by decide) ?_ | (refine Duo.mk (by first | omega | exact rfl | decide) ?_; intros) | (refine Duo.mk (Clo.mk (by kernel_rfl)) ?_; intros)))
  refine iteB_t rfl ?_
  have hv := vb_len (u64n ty)
  refine ⟨?_, ?_, ?_⟩
  all_goals
    (repeat (first | (refine Step.go ?_; intros) | refine iteB_t (by decide) ?_ | refine iteB_f (by decide) ?_ | (refine Duo.mk (by first | omega | exact rfl | decide) ?_; intros) | (refine Duo.mk (Clo.mk (by kernel_rfl)) ?_; intros)))
    have S1 := ‹Sat _ (pt _ (.cells ⟨[.int .u8 8]⟩ 5) :: _)›
    refine apB1 (v := (8 : Int)) (y := bt 8) (xs := []) (q := none) (c := 0) (m := pt rb (rcO (some ⟨tb, 0, none⟩) (some ⟨sb, 0, none⟩) q qn qc) :: pt tb (.cells ⟨[.int .i64 ty]⟩ 2) :: pt sb (.cells ⟨[.int .u32 (iv s)]⟩ 22) :: l) (by decide) (by simp) (S1.to (Ent.slNil .refl)) fun q1 c1 H2 S2 => ?_
    (repeat (first | (refine Step.go ?_; intros) | refine iteB_t (by decide) ?_ | refine iteB_f (by decide) ?_ | (refine Duo.mk (by first | omega | exact rfl | decide) ?_; intros) | (refine Duo.mk (Clo.mk (by kernel_rfl)) ?_; intros)))
    refine call_of (putv_ok (m := u64n ty) (wru64_any ty) (u64n_lt ty) (by simp) S2) ?_
    rintro e H3 ⟨q2, c2, rfl, S3⟩
    (repeat (first | (refine Step.go ?_; intros) | refine iteB_t (by decide) ?_ | refine iteB_f (by decide) ?_ | (refine Duo.mk (by first | omega | exact rfl | decide) ?_; intros) | (refine Duo.mk (Clo.mk (by kernel_rfl)) ?_; intros)))
    have := key0 q2 c2 (([] ++ [bt 8]) ++ vb (u64n ty)) H3 (by simp; omega) S3
    exact this
/-- Marshal. -/
theorem marshal_ok {rb tb sb : Nat} {ty : Int} {s : W32} {q : Option Addr} {qn qc : Nat} {d : Option (List UInt8)} (hd : dlen d ≤ 140737488340000) (D : DatR l q qn d)
    (S : Sat H (pt rb (rcO (some ⟨tb, 0, none⟩) (some ⟨sb, 0, none⟩) q qn qc) :: pt tb (.cells ⟨[.int .i64 ty]⟩ 2) :: pt sb (.cells ⟨[.int .u32 (iv s)]⟩ 22) :: l)) :
    CallsH Tryd.prog 39 ⟨[.iface 56 (.pointer (some ⟨rb, 0, none⟩))]⟩ H (fun e H1 => ∃ q' c', e = .returned (.tuple ⟨[.slice q' (body ty s d).length c', .nilIface]⟩) ∧
      Sat H1 (sl bC 5 1 q' (body ty s d).length c' (body ty s d) :: pt rb (rcO (some ⟨tb, 0, none⟩) (some ⟨sb, 0, none⟩) q qn qc) :: pt tb (.cells ⟨[.int .i64 ty]⟩ 2) :: pt sb (.cells ⟨[.int .u32 (iv s)]⟩ 22) :: l)) := by
  refine F39.calls (m := .mk 56 _) ?_
  unfold F39.go
  refine callI_i (f := 63) (by kernel_rfl) (by kernel_rfl) (by kernel_rfl) ?_
  refine call_of (putf_ok hd D S) ?_
  rintro e H1 ⟨q', c', rfl, S1⟩
  (repeat (first | (refine Step.go ?_; intros) | refine iteB_t (by decide) ?_ | refine iteB_f (by decide) ?_ | (refine Duo.mk (by first | omega | exact rfl | decide) ?_; intros) | (refine Duo.mk (Clo.mk (by kernel_rfl)) ?_; intros)))
  exact ⟨q', c', rfl, S1⟩
/-! ### The length's field -/
theorem pad_i {n : Nat} (h : n < 2 ^ 47) : Int.tmod (IntKind.wrap .i64 ((8 : Int) - (Int.tmod (n : Int) (8 : Int)))) (8 : Int) = ((padOf n : Nat) : Int) := by
  have e1 : Int.tmod (n : Int) (8 : Int) = ((n % 8 : Nat) : Int) := by
    rw [Int.tmod_eq_emod_of_nonneg (by omega)]; omega
  rw [e1, wr64 (by omega) (by omega), Int.tmod_eq_emod_of_nonneg (by omega)]
  unfold padOf
  omega
theorem frame_ok {n : Nat} (h : n < 2 ^ 47) : CallsH Tryd.prog 44 ⟨[.int .i64 (n : Int)]⟩ H (Gives (.tuple ⟨[.int .u64 ((lenF n : Nat) : Int), .int .i64 ((padOf n : Nat) : Int)]⟩) H) := by
  refine F44.calls ?_
  unfold F44.go
  have hp := padOf_lt n
  refine ⟨by decide, by decide, ?_⟩
  rw [pad_i h]
  unfold lenF
  by_cases h0 : padOf n = 0
  · refine iteB_f (by rw [h0]; rfl) ?_
    rw [if_pos h0, wru64 (by omega)]
    exact ⟨rfl, ExtH.refl H⟩
  · refine iteB_t (by simp; omega) ?_
    refine ⟨by decide, ?_⟩
    rw [if_neg h0]
    have e1 : orZ .i64 (128 : Int) ((padOf n : Nat) : Int) = ((128 + padOf n : Nat) : Int) := by
      rw [show (128 : Int) = ((128 : Nat) : Int) from rfl, or_i64 (by omega) (by omega), or_add (k := 7) (by decide) (by omega)]
    rw [e1, wru64 (by omega), wru64 (by omega), show (56 : Int) = ((56 : Nat) : Int) from rfl, shl64 (by omega) (by omega), or64 (by omega) (by omega), or_add' (k := 56) (by omega) (by omega)]
    exact ⟨rfl, ExtH.refl H⟩
theorem info5c : (match Tryd.prog.info? 5 with | some ie => ie.bytes == 1 && ie.size == 1 | none => false) = true := by kernel_rfl
theorem info5 : ∃ ie, Tryd.prog.info? 5 = some ie ∧ ie.bytes = 1 ∧ ie.size = 1 := by
  have h := info5c
  split at h
  · rename_i ie hie
    simp only [Bool.and_eq_true, beq_iff_eq] at h
    exact ⟨ie, hie, h⟩
  · cases h
def zerosB (k : Nat) : List UInt8 := List.replicate k (bt 0)
theorem rep_zeros (k : Nat) : repZ [.int .u8 (0 : Int)] k = (zerosB k).flatMap bC := by
  rw [repZ_one]
  unfold zerosB
  induction k with
  | zero => rfl
  | succ k ih => rw [List.replicate_succ, List.replicate_succ, List.flatMap_cons, ih]; rfl
set_option maxRecDepth 100000 in
theorem apMk {q : Option Addr} {c k : Nat} {xs : List UInt8} {K : Value → Heap → Prop} {Q : Value → Heap → Prop} (h0 : k ≠ 0) (hk : k ≤ 8) (hx : xs.length ≤ 140737488350000) (S : Sat H (sl bC 5 1 q xs.length c xs :: l))
    (hK : ∀ q' c' H2, Sat H2 (sl bC 5 1 q' (xs ++ zerosB k).length c' (xs ++ zerosB k) :: l) → K (.slice q' (xs ++ zerosB k).length c') H2) :
    SemH Tryd.prog (Builtin.append_ ⟨27 :: 3 :: []⟩ 27 ⟨.slice q xs.length c :: .int .i64 (k : Int) :: []⟩) H K Q := by
  have key : ∀ ie : TypeInfo, Tryd.prog.info? 5 = some ie ∧ ie.bytes = 1 ∧ ie.size = 1 → SemH Tryd.prog (Builtin.append_ ⟨27 :: 3 :: []⟩ 27 ⟨.slice q xs.length c :: .int .i64 (k : Int) :: []⟩) H K Q := by
    intro ie hh
    have hie := hh.1
    have hb := hh.2.1
    have hs := hh.2.2
    have hz5 : zeroL Tryd.prog 5 = some [.int .u8 0] := by kernel_rfl
    have hu27 : Tryd.prog.underlying 27 = some (.slice 5) := by kernel_rfl
    have hu3 : Tryd.prog.underlying 3 = some (.int .i64) := by kernel_rfl
    have h1 : (k : Int) < 9223372036854775808 := by omega
    have h2 : (k : Int) * ie.bytes ≤ 2 ^ 48 := by rw [hb]; omega
    have h3 : k * ie.size ≠ 0 := by rw [hs]; omega
    have h4 : ((xs.length + k : Nat) : Int) ≤ IntKind.i64.max := by show _ ≤ (9223372036854775807 : Int); omega
    refine appendZ.sem (T := 27) (Tx := 3) (e := 5) (ts := []) (rs := []) hu27 hie hz5 hu3 h1 h2 h3 h4 ?_
    rw [hb, hs, rep_zeros]
    refine S.slAppV (ys := zerosB k) (by simp [zerosB]) (by intro y _; rfl) ?_ rfl (by decide) (by omega) fun q' c' H2 S2 => ?_
    · intro v hv
      obtain ⟨b, _, hv⟩ := List.mem_flatMap.1 hv
      simp only [bC, List.mem_singleton] at hv
      subst hv; rfl
    · have e : xs.length + k = (xs ++ zerosB k).length := by simp [zerosB]
      rw [e] at S2 ⊢
      exact hK q' c' H2 S2
  exact info5.elim key
set_option maxRecDepth 100000 in
theorem prep_ok {q : Option Addr} {c : Nat} {xs : List UInt8} (hx : xs.length ≤ 140737488350000) (S : Sat H (sl bC 5 1 q xs.length c xs :: l)) :
    CallsH Tryd.prog 40 ⟨[.slice q xs.length c]⟩ H (fun e H1 => ∃ q' c', e = .returned (.tuple ⟨[.slice q' (xs ++ zerosB (padOf xs.length)).length c', .int .u64 ((lenF xs.length : Nat) : Int)]⟩) ∧
      Sat H1 (sl bC 5 1 q' (xs ++ zerosB (padOf xs.length)).length c' (xs ++ zerosB (padOf xs.length)) :: l)) := by
  refine F40.calls ?_
  unfold F40.go
  refine gives_i S (frame_ok (by omega)) fun H1 E1 S1 => ?_
  (repeat (first | (refine Step.go ?_; intros) | refine iteB_t (by decide) ?_ | refine iteB_f (by decide) ?_ | (refine Duo.mk (by first | omega | exact rfl | decide) ?_; intros) | (refine Duo.mk (Clo.mk (by kernel_rfl)) ?_; intros)))
  have hp := padOf_lt xs.length
  by_cases h0 : padOf xs.length = 0
  · refine iteB_f (by rw [h0]; rfl) ?_
    have e : xs ++ zerosB (padOf xs.length) = xs := by rw [h0]; simp [zerosB]
    rw [e]
    exact ⟨q, c, rfl, S1⟩
  · refine iteB_t (by simp; omega) ?_
    refine ⟨?_⟩
    refine apMk (by omega) (by omega) hx S1 fun q' c' H2 S2 => ?_
    (repeat (first | (refine Step.go ?_; intros) | refine iteB_t (by decide) ?_ | refine iteB_f (by decide) ?_ | (refine Duo.mk (by first | omega | exact rfl | decide) ?_; intros) | (refine Duo.mk (Clo.mk (by kernel_rfl)) ?_; intros)))
    exact ⟨q', c', rfl, S2⟩
end
end Go.Proofs.YtkejocbhmcphiaaDoor

set_option linter.unusedVariables false
set_option linter.unusedSimpArgs false
set_option linter.unnecessarySimpa false
namespace Go.Proofs.YtkejocbhmcphiaaDoor
open Go Go.Den Go.Proofs
/-! The writer of pages. -/
instance {P : Program} {t : TypeId} {x : Value} {k : Value → Prop} : Step (nilV P (IV.v (.mk t x)) k) (k (.iface t x)) := ⟨id⟩
instance {k : Bool → Prop} : Step (ifNilD (IV.v .nil) k) (k true) := ⟨id⟩
instance {k : Bool → Prop} : Step (ifNilD .nilIface k) (k true) := ⟨id⟩
instance {t : TypeId} {x : Value} {k : Bool → Prop} : Step (ifNilD (IV.v (.mk t x)) k) (k false) := ⟨id⟩
instance {t : TypeId} {x : Value} {k : Bool → Prop} : Step (ifNilD (.iface t x) k) (k false) := ⟨id⟩
theorem slPz {p : Option Addr} {c z : Nat} : slP p 0 c z = p := by
  unfold slP
  split
  · rfl
  · rw [Nat.zero_mul]
    cases p with
    | none => rfl
    | some a => simp [Addr.add]
abbrev pgO (b : Option Addr) (n c : Nat) : Obj := .cells ⟨[.slice b n c]⟩ 51
abbrev pwO (pg : Nat) (po bf : Int) (q : Option Addr) (c : Nat) : Obj := .cells ⟨[.iface 49 (.pointer (some ⟨pg, 0, none⟩)), .int .i64 po, .int .i64 4096, .int .i64 bf, .slice q 135168 c, .int .i64 131072]⟩ 112
section
variable {H : Heap} {l : List HP} {pg wb : Nat}
/-- What has been written: to the page, and what stands in the buffer. -/
structure PwI (po bf : Nat) (xs buf all : List UInt8) : Prop where
  len : buf.length = 135168
  bfl : bf ≤ 135168
  pol : po ≤ 2097152
  all : all = xs ++ buf.take bf
def pwL (pg wb : Nat) (b : Option Addr) (bc : Nat) (xs : List UInt8) (po bf : Nat) (q : Option Addr) (c : Nat) (buf : List UInt8) (l : List HP) : List HP :=
  pt pg (pgO b xs.length bc) :: sl bC 5 1 b xs.length bc xs :: pt wb (pwO pg po bf q c) :: sl bC 5 1 q 135168 c buf :: l
def PwT (H : Heap) (pg wb : Nat) (all : List UInt8) (l : List HP) : Prop := ∃ b bc xs po bf q c buf, PwI po bf xs buf all ∧ Sat H (pwL pg wb b bc xs po bf q c buf l)
def PwS (H : Heap) (pg wb : Nat) (all : List UInt8) (l : List HP) : Prop := ∃ b bc xs po bf q c buf, PwI po bf xs buf all ∧ bf + 4096 ≤ 135168 + (po + bf) % 4096 ∧ Sat H (pwL pg wb b bc xs po bf q c buf l)
theorem PwS.weak {all : List UInt8} (h : PwS H pg wb all l) : PwT H pg wb all l := by
  obtain ⟨b, bc, xs, po, bf, q, c, buf, I, _, S⟩ := h
  exact ⟨b, bc, xs, po, bf, q, c, buf, I, S⟩
theorem page_ok {b p : Option Addr} {bc pc : Nat} {xs ys : List UInt8} (hl : xs.length + ys.length ≤ 140737488351232) (R : Rd1 l p ys) (S : Sat H (pt pg (pgO b xs.length bc) :: sl bC 5 1 b xs.length bc xs :: l)) :
    CallsH Tryd.prog 62 ⟨[.pointer (some ⟨pg, 0, none⟩), .slice p ys.length pc]⟩ H (fun e H1 => e = .returned (.tuple ⟨[.int .i64 ys.length, .nilIface]⟩) ∧ ∃ b' bc', Sat H1 (pt pg (pgO b' (xs ++ ys).length bc') :: sl bC 5 1 b' (xs ++ ys).length bc' (xs ++ ys) :: l)) := by
  refine F62.calls ?_
  unfold F62.go
  (repeat (first | (refine Step.go ?_; intros) | refine iteB_t (by decide) ?_ | refine iteB_f (by decide) ?_ | (refine Duo.mk (by first | omega | exact rfl | decide) ?_; intros) | (refine Duo.mk (Clo.mk (by kernel_rfl)) ?_; intros)))
  refine apB (m := pt pg (pgO b xs.length bc) :: l) hl rfl (S.to Ent.swp) R.there fun b' bc' H1 S1 => ?_
  clear S
  (repeat (first | (refine Step.go ?_; intros) | refine iteB_t (by decide) ?_ | refine iteB_f (by decide) ?_ | (refine Duo.mk (by first | omega | exact rfl | decide) ?_; intros) | (refine Duo.mk (Clo.mk (by kernel_rfl)) ?_; intros)))
  rename_i H2 S2
  exact ⟨rfl, b', bc', S2.to Ent.swp⟩
theorem pflush_ok {all : List UInt8} (hl : all.length ≤ 140737488351232) (S : PwT H pg wb all l) :
    CallsH Tryd.prog 46 ⟨[.pointer (some ⟨wb, 0, none⟩)]⟩ H (fun e H1 => ∃ n : Int, e = .returned (.tuple ⟨[.int .i64 n, .nilIface]⟩) ∧ ∃ b bc po q c buf, PwI po 0 all buf all ∧ Sat H1 (pwL pg wb b bc all po 0 q c buf l)) := by
  obtain ⟨b, bc, xs, po, bf, q, c, buf, I, S⟩ := S
  obtain ⟨i1, i2, i4, i5⟩ := I
  unfold pwL at S
  refine F46.calls ?_
  unfold F46.go
  (repeat (first | (refine Step.go ?_; intros) | refine iteB_t (by decide) ?_ | refine iteB_f (by decide) ?_ | (refine Duo.mk (by first | omega | exact rfl | decide) ?_; intros) | (refine Duo.mk (Clo.mk (by kernel_rfl)) ?_; intros)))
  by_cases h0 : bf = 0
  · subst h0
    refine iteB_t rfl ?_
    have e : all = xs := by rw [i5]; simp
    subst e
    exact ⟨0, rfl, b, bc, po, q, c, buf, ⟨i1, i2, i4, by simp⟩, S⟩
  refine iteB_f (by simp; omega) ?_
  have hc : 135168 ≤ c := (S.slLen (List.mem_cons_of_mem _ (List.mem_cons_of_mem _ (List.mem_cons_of_mem _ (List.mem_cons_self ..))))).2
  (repeat (first | (refine Step.go ?_; intros) | refine iteB_t (by decide) ?_ | refine iteB_f (by decide) ?_ | (refine Duo.mk (by first | omega | exact rfl | decide) ?_; intros) | (refine Duo.mk (Clo.mk (by kernel_rfl)) ?_; intros)))
  rw [slP_zero]
  refine callI_i (f := 62) (by kernel_rfl) (by kernel_rfl) (by kernel_rfl) ?_
  have hbt : (buf.take bf).length = bf := by rw [List.length_take]; omega
  have S2 : Sat H (pt pg (pgO b xs.length bc) :: sl bC 5 1 b xs.length bc xs :: pt wb (pwO pg po bf q c) :: sl bC 5 1 q 135168 c buf :: l) := S
  have hp := page_ok (p := q) (pc := c) (ys := buf.take bf) (by rw [i5] at hl; rw [List.length_append] at hl; omega) ((Rd1.of_sl (List.mem_cons_of_mem _ (List.mem_cons_self ..))).take bf) S2
  rw [hbt] at hp
  rw [Int.toNat_natCast]
  refine call_of hp ?_
  rintro e H1 ⟨rfl, b', bc', S3⟩
  rw [← i5] at S3
  clear S S2 hp
  (repeat (first | (refine Step.go ?_; intros) | refine iteB_t (by decide) ?_ | refine iteB_f (by decide) ?_ | (refine Duo.mk (by first | omega | exact rfl | decide) ?_; intros) | (refine Duo.mk (Clo.mk (by kernel_rfl)) ?_; intros)))
  rename_i H3 S4
  refine ⟨_, rfl, b', bc', (po + bf) % 4096, q, c, buf, ⟨i1, by omega, by omega, by simp⟩, ?_⟩
  have e : Int.tmod (IntKind.wrap .i64 ((po : Int) + (bf : Int))) 4096 = (((po + bf) % 4096 : Nat) : Int) := by
    rw [wr64 (by omega) (by omega), Int.tmod_eq_emod_of_nonneg (by omega)]; omega
  rw [e] at S4
  exact S4
theorem flush_ok {all : List UInt8} (hl : all.length ≤ 140737488351232) (S : PwT H pg wb all l) :
    CallsH Tryd.prog 42 ⟨[.pointer (some ⟨wb, 0, none⟩)]⟩ H (fun e H1 => e = .returned .nilIface ∧ ∃ b bc po q c buf, PwI po 0 all buf all ∧ Sat H1 (pwL pg wb b bc all po 0 q c buf l)) := by
  refine F42.calls ?_
  unfold F42.go
  refine call_of (pflush_ok hl S) ?_
  rintro e H1 ⟨n, rfl, h⟩
  (repeat (first | (refine Step.go ?_; intros) | refine iteB_t (by decide) ?_ | refine iteB_f (by decide) ?_ | (refine Duo.mk (by first | omega | exact rfl | decide) ?_; intros) | (refine Duo.mk (Clo.mk (by kernel_rfl)) ?_; intros)))
  exact ⟨rfl, h⟩
/-- Copying into the buffer. -/
theorem buf_take {buf ys : List UInt8} {bf : Nat} (h : bf + ys.length ≤ buf.length) : (buf.take bf ++ ys.take (Nat.min ys.length (buf.length - bf)) ++ buf.drop (bf + Nat.min ys.length (buf.length - bf))).take (bf + ys.length) = buf.take bf ++ ys := by
  have e : Nat.min ys.length (buf.length - bf) = ys.length := Nat.min_eq_left (by omega)
  rw [e, List.take_of_length_le (Nat.le_refl _)]
  rw [List.take_append_of_le_length (by simp; omega), List.take_of_length_le (by simp; omega)]
theorem buf_len {buf ys : List UInt8} {bf : Nat} (h : bf + ys.length ≤ buf.length) : (buf.take bf ++ ys.take (Nat.min ys.length (buf.length - bf)) ++ buf.drop (bf + Nat.min ys.length (buf.length - bf))).length = buf.length := by
  have e : Nat.min ys.length (buf.length - bf) = ys.length := Nat.min_eq_left (by omega)
  rw [e, List.take_of_length_le (Nat.le_refl _)]
  simp only [List.length_append, List.length_take, List.length_drop]
  omega
theorem bytes_cells {ys : List UInt8} : ∀ v ∈ ys.flatMap bC, isCell v = true := by
  intro v hv
  obtain ⟨b, _, hv⟩ := List.mem_flatMap.1 hv
  simp only [bC, List.mem_singleton] at hv
  subst hv; rfl
/-- What does not fill the buffer. -/
theorem pwSmall {all : List UInt8} {p : Option Addr} {pc : Nat} {ys : List UInt8} {b : Option Addr} {bc : Nat} {xs : List UInt8} {po bf : Nat} {q : Option Addr} {c : Nat} {buf : List UInt8} (I : PwI po bf xs buf all) (hs : ys.length + bf ≤ 131072) (R : Rd1 l p ys) (S : Sat H (pwL pg wb b bc xs po bf q c buf l)) :
    CallsH Tryd.prog 84 ⟨[.pointer (some ⟨wb, 0, none⟩), .slice p ys.length pc]⟩ H (fun e H1 => e = .returned (.tuple ⟨[.int .i64 ys.length, .nilIface]⟩) ∧ PwS H1 pg wb (all ++ ys) l) := by
  obtain ⟨i1, i2, i4, i5⟩ := I
  unfold pwL at S
  refine F84.calls ?_
  unfold F84.go
  (repeat (first | (refine Step.go ?_; intros) | refine iteB_t (by decide) ?_ | refine iteB_f (by decide) ?_ | (refine Duo.mk (by first | omega | exact rfl | decide) ?_; intros) | (refine Duo.mk (Clo.mk (by kernel_rfl)) ?_; intros)))
  refine iteB_t (by rw [wr64 (by omega) (by omega)]; simp; omega) ?_
  have hc : 135168 ≤ c := (S.slLen (List.mem_cons_of_mem _ (List.mem_cons_of_mem _ (List.mem_cons_of_mem _ (List.mem_cons_self ..))))).2
  (repeat (first | (refine Step.go ?_; intros) | refine iteB_t (by decide) ?_ | refine iteB_f (by decide) ?_ | (refine Duo.mk (by first | omega | exact rfl | decide) ?_; intros) | (refine Duo.mk (Clo.mk (by kernel_rfl)) ?_; intros)))
  rw [Int.toNat_natCast]
  have S2 : Sat H (sl bC 5 1 q 135168 c buf :: pt pg (pgO b xs.length bc) :: sl bC 5 1 b xs.length bc xs :: pt wb (pwO pg po bf q c) :: l) := S.to (by
    apply Ent.pick; (focus (repeat (first | exact Sel.here | apply Sel.there))); exact Ent.refl)
  refine S2.slCopy (ys := ys) (by omega) (by rw [flat_bytes]; exact R.there.there.there.there.cells S2) rfl (by intro y _; rfl) bytes_cells fun H1 S3 => ?_
  clear S S2
  (repeat (first | (refine Step.go ?_; intros) | refine iteB_t (by decide) ?_ | refine iteB_f (by decide) ?_ | (refine Duo.mk (by first | omega | exact rfl | decide) ?_; intros) | (refine Duo.mk (Clo.mk (by kernel_rfl)) ?_; intros)))
  rename_i H2 S4
  rw [wr64 (by omega) (by omega)] at S4
  have n1 := buf_len (buf := buf) (ys := ys) (bf := bf) (by omega)
  have n2 := buf_take (buf := buf) (ys := ys) (bf := bf) (by omega)
  rw [i1] at n1 n2
  generalize buf.take bf ++ ys.take (Nat.min ys.length (135168 - bf)) ++ buf.drop (bf + Nat.min ys.length (135168 - bf)) = nb at S4 n1 n2
  refine ⟨rfl, b, bc, xs, po, bf + ys.length, q, c, nb, ⟨n1, by omega, i4, ?_⟩, by omega, S4.to ?_⟩
  · rw [i5, n2, List.append_assoc]
  · have e : ((bf : Int) + (ys.length : Int)) = ((bf + ys.length : Nat) : Int) := by simp
    rw [e]
    unfold pwL
    iterate 4 (apply Ent.pick; (focus (repeat (first | exact Sel.here | apply Sel.there))))
    exact Ent.refl
end
end Go.Proofs.YtkejocbhmcphiaaDoor

set_option linter.unusedVariables false
set_option linter.unusedSimpArgs false
set_option linter.unnecessarySimpa false
namespace Go.Proofs.YtkejocbhmcphiaaDoor
open Go Go.Den Go.Proofs
/-! All that is written stands there, in order. -/
section
variable {l : List HP} {pg wb : Nat}
abbrev wOut (pg wb : Nat) (all : List UInt8) (l : List HP) : Ending → Heap → Prop := fun e H1 => ∃ n : Int, e = .returned (.tuple ⟨[.int .i64 n, .nilIface]⟩) ∧ PwS H1 pg wb all l
theorem pwTail {H : Heap} {all : List UInt8} {p : Option Addr} {pc : Nat} {ys : List UInt8} {b : Option Addr} {bc : Nat} {xs : List UInt8} {po : Nat} {q : Option Addr} {c : Nat} {buf : List UInt8} {s4 : Int} (I : PwI po 0 xs buf all) (hs : ys.length ≤ 5000) (R : Rd1 l p ys) (S : Sat H (pwL pg wb b bc xs po 0 q c buf l)) :
    F84.L2 (some ⟨wb, 0, none⟩) p ys.length pc s4 H (wOut pg wb (all ++ ys) l) := by
  refine F84.L2_step ?_
  unfold F84.L2n
  refine call_of (pwSmall I (by omega) R S) ?_
  rintro e H1 ⟨rfl, h⟩
  (repeat (first | (refine Step.go ?_; intros) | refine iteB_t (by decide) ?_ | refine iteB_f (by decide) ?_ | (refine Duo.mk (by first | omega | exact rfl | decide) ?_; intros) | (refine Duo.mk (Clo.mk (by kernel_rfl)) ?_; intros)))
  exact ⟨_, rfl, h⟩
theorem pwRest {H : Heap} {all : List UInt8} {p : Option Addr} {pc : Nat} {ys : List UInt8} {s4 : Int} (hl : all.length + ys.length ≤ 140737488351232) (hc : ys.length ≤ pc) (R : Rd1 l p ys) (S : PwT H pg wb all l) :
    F84.L1 (some ⟨wb, 0, none⟩) p ys.length pc s4 H (wOut pg wb (all ++ ys) l) := by
  refine F84.L1_step ?_
  unfold F84.L1n
  refine call_of (flush_ok (by omega) S) ?_
  rintro e H1 ⟨rfl, b, bc, po, q, c, buf, I, S1⟩
  have S2 := S1
  unfold pwL at S1
  (repeat (first | (refine Step.go ?_; intros) | refine iteB_t (by decide) ?_ | refine iteB_f (by decide) ?_ | (refine Duo.mk (by first | omega | exact rfl | decide) ?_; intros) | (refine Duo.mk (Clo.mk (by kernel_rfl)) ?_; intros)))
  by_cases h : ys.length ≤ 4096
  · refine iteB_f (by simp; omega) ?_
    exact pwTail I (by omega) R S2
  · refine iteB_t (by simp; omega) ?_
    have e1 : IntKind.wrap .i64 ((IntKind.wrap .i64 (Int.tdiv ((ys.length : Nat) : Int) 4096)) * 4096) = ((ys.length / 4096 * 4096 : Nat) : Int) := by
      have : Int.tdiv ((ys.length : Nat) : Int) 4096 = ((ys.length / 4096 : Nat) : Int) := by
        rw [Int.tdiv_eq_ediv_of_nonneg (by omega)]; omega
      rw [this, wr64 (i := ((ys.length / 4096 : Nat) : Int)) (by omega) (by omega), wr64 (by omega) (by omega)]; omega
    (repeat (first | (refine Step.go ?_; intros) | refine iteB_t (by decide) ?_ | refine iteB_f (by decide) ?_ | (refine Duo.mk (by first | omega | exact rfl | decide) ?_; intros) | (refine Duo.mk (Clo.mk (by kernel_rfl)) ?_; intros)))
    rw [e1]
    have hk : ys.length / 4096 * 4096 ≤ ys.length := by omega
    rw [slP_zero, Int.toNat_natCast]
    refine callI_i (f := 62) (by kernel_rfl) (by kernel_rfl) (by kernel_rfl) ?_
    have hkl : (ys.take (ys.length / 4096 * 4096)).length = ys.length / 4096 * 4096 := by rw [List.length_take]; omega
    have hp := page_ok (p := p) (pc := pc) (ys := ys.take (ys.length / 4096 * 4096)) (by omega) ((R.take _).there.there) S1
    rw [hkl] at hp
    refine call_of hp ?_
    rintro e H2 ⟨rfl, b', bc', S3⟩
    clear S1 S2 hp
    (repeat (first | (refine Step.go ?_; intros) | refine iteB_t (by decide) ?_ | refine iteB_f (by decide) ?_ | (refine Duo.mk (by first | omega | exact rfl | decide) ?_; intros) | (refine Duo.mk (Clo.mk (by kernel_rfl)) ?_; intros)))
    rw [e1]
    rw [Int.toNat_natCast]
    obtain ⟨i1, i2, i4, i5⟩ := I
    have hz : buf.take 0 = [] := by simp
    have e2 : ys.length - ys.length / 4096 * 4096 = (ys.drop (ys.length / 4096 * 4096)).length := by simp
    have hT := pwTail (s4 := IntKind.wrap .i64 (s4 + ((ys.length / 4096 * 4096 : Nat) : Int))) (po := po) (q := q) (c := c) (buf := buf) (all := all ++ ys.take (ys.length / 4096 * 4096)) (pc := pc - ys.length / 4096 * 4096) ⟨i1, i2, i4, by rw [hz, List.append_nil]⟩ (by rw [← e2]; omega) (R.drop (ys.length / 4096 * 4096) pc hc) S3
    rw [List.append_assoc, List.take_append_drop, ← e2] at hT
    exact hT
theorem write_ok {H : Heap} {all : List UInt8} {p : Option Addr} {pc : Nat} {ys : List UInt8} (hl : all.length + ys.length ≤ 140737488351232) (hc : ys.length ≤ pc) (R : Rd1 l p ys) (S : PwS H pg wb all l) :
    CallsH Tryd.prog 84 ⟨[.pointer (some ⟨wb, 0, none⟩), .slice p ys.length pc]⟩ H (wOut pg wb (all ++ ys) l) := by
  have S' := S
  obtain ⟨b, bc, xs, po, bf, q, c, buf, I, i3, S⟩ := S
  by_cases hs : ys.length + bf ≤ 131072
  · refine CallsH.mono (pwSmall I hs R S) ?_
    rintro e H1 ⟨rfl, h⟩
    exact ⟨_, rfl, h⟩
  have I' := I
  obtain ⟨i1, i2, i4, i5⟩ := I
  unfold pwL at S
  refine F84.calls ?_
  unfold F84.go
  (repeat (first | (refine Step.go ?_; intros) | refine iteB_t (by decide) ?_ | refine iteB_f (by decide) ?_ | (refine Duo.mk (by first | omega | exact rfl | decide) ?_; intros) | (refine Duo.mk (Clo.mk (by kernel_rfl)) ?_; intros)))
  refine iteB_f (by rw [wr64 (by omega) (by omega)]; simp; omega) ?_
  have e1 : IntKind.wrap .i64 ((4096 : Int) - (Int.tmod (IntKind.wrap .i64 ((po : Int) + (bf : Int))) 4096)) = ((4096 - (po + bf) % 4096 : Nat) : Int) := by
    have : Int.tmod (IntKind.wrap .i64 ((po : Int) + (bf : Int))) 4096 = (((po + bf) % 4096 : Nat) : Int) := by
      rw [wr64 (by omega) (by omega), Int.tmod_eq_emod_of_nonneg (by omega)]; omega
    rw [this, wr64 (by omega) (by omega)]; omega
  (repeat (first | (refine Step.go ?_; intros) | refine iteB_t (by decide) ?_ | refine iteB_f (by decide) ?_ | (refine Duo.mk (by first | omega | exact rfl | decide) ?_; intros) | (refine Duo.mk (Clo.mk (by kernel_rfl)) ?_; intros)))
  rw [e1]
  have hc2 : 135168 ≤ c := (S.slLen (List.mem_cons_of_mem _ (List.mem_cons_of_mem _ (List.mem_cons_of_mem _ (List.mem_cons_self ..))))).2
  /- the slack page -/
  have key : ∀ (k : Nat) (t : Bool), k ≤ ys.length → bf + k ≤ 135168 → (t = true → k = ys.length ∧ bf + k + 4096 ≤ 135168 + (po + bf + k) % 4096) → (t = false → (po + bf + k) % 4096 = 0) →
      F84.L0 (some ⟨wb, 0, none⟩) p ys.length pc ((k : Nat) : Int) t H (wOut pg wb (all ++ ys) l) := by
    intro k t hk hb ht hf
    refine F84.L0_step ?_
    unfold F84.L0n
    (repeat (first | (refine Step.go ?_; intros) | refine iteB_t (by decide) ?_ | refine iteB_f (by decide) ?_ | (refine Duo.mk (by first | omega | exact rfl | decide) ?_; intros) | (refine Duo.mk (Clo.mk (by kernel_rfl)) ?_; intros)))
    rw [slP_zero, Int.toNat_natCast, Int.toNat_natCast]
    have S2 : Sat H (sl bC 5 1 q 135168 c buf :: pt pg (pgO b xs.length bc) :: sl bC 5 1 b xs.length bc xs :: pt wb (pwO pg po bf q c) :: l) := S.to (by
      apply Ent.pick; (focus (repeat (first | exact Sel.here | apply Sel.there))); exact Ent.refl)
    have hkl : (ys.take k).length = k := by rw [List.length_take]; omega
    refine S2.slCopy (ys := ys.take k) (by omega) (by rw [flat_bytes]; exact (R.take k).there.there.there.there.cells S2) hkl (by intro y _; rfl) bytes_cells fun H1 S3 => ?_
    clear S S2
    (repeat (first | (refine Step.go ?_; intros) | refine iteB_t (by decide) ?_ | refine iteB_f (by decide) ?_ | (refine Duo.mk (by first | omega | exact rfl | decide) ?_; intros) | (refine Duo.mk (Clo.mk (by kernel_rfl)) ?_; intros)))
    rename_i H2 S4
    rw [wr64 (by omega) (by omega)] at S4
    have n1 := buf_len (buf := buf) (ys := ys.take k) (bf := bf) (by omega)
    have n2 := buf_take (buf := buf) (ys := ys.take k) (bf := bf) (by omega)
    rw [i1, hkl] at n1 n2
    generalize buf.take bf ++ (ys.take k).take (Nat.min k (135168 - bf)) ++ buf.drop (bf + Nat.min k (135168 - bf)) = nb at S4 n1 n2
    have e : ((bf : Int) + (k : Int)) = ((bf + k : Nat) : Int) := by simp
    rw [e] at S4
    have S5 : Sat H2 (pwL pg wb b bc xs po (bf + k) q c nb l) := S4.to (by
      unfold pwL
      iterate 4 (apply Ent.pick; (focus (repeat (first | exact Sel.here | apply Sel.there))))
      exact Ent.refl)
    have ha : all ++ ys.take k = xs ++ nb.take (bf + k) := by rw [i5, n2, List.append_assoc]
    rw [Int.toNat_natCast]
    cases t with
    | true =>
      obtain ⟨rfl, h2⟩ := ht rfl
      refine iteB_t rfl ?_
      rw [List.take_of_length_le (Nat.le_refl _)] at ha
      exact ⟨_, rfl, b, bc, xs, po, bf + ys.length, q, c, nb, ⟨n1, by omega, i4, ha⟩, by rw [← Nat.add_assoc]; omega, S5⟩
    | false =>
      refine iteB_f rfl ?_
      have h3 := hf rfl
      have e2 : ys.length - k = (ys.drop k).length := by simp
      have hR := pwRest (s4 := ((k : Nat) : Int)) (all := all ++ ys.take k) (p := slP p k pc 1) (pc := pc - k) (ys := ys.drop k) (l := l) (pg := pg) (wb := wb) (H := H2) (by simp; omega) (by simp; omega) (R.drop k pc hc) ⟨b, bc, xs, po, bf + k, q, c, nb, ⟨n1, hb, i4, ha⟩, S5⟩
      rw [List.append_assoc, List.take_append_drop, ← e2] at hR
      exact hR
  have hm : (po + bf) % 4096 < 4096 := Nat.mod_lt _ (by decide)
  by_cases hsl : (po + bf) % 4096 = 0
  · refine iteB_f (by simp; omega) ?_
    exact pwRest hl hc R S'.weak
  · refine iteB_t (by simp; omega) ?_
    by_cases hpt : ys.length < 4096 - (po + bf) % 4096
    · have ed : (decide ((((4096 - (po + bf) % 4096 : Nat) : Int)) > ((ys.length : Nat) : Int))) = true := by simp; omega
      refine iteB_t ed ?_
      rw [ed]
      exact key ys.length true (Nat.le_refl _) (by omega) (fun _ => ⟨rfl, by omega⟩) (fun h => by cases h)
    · have ed : (decide ((((4096 - (po + bf) % 4096 : Nat) : Int)) > ((ys.length : Nat) : Int))) = false := by simp; omega
      refine iteB_f ed ?_
      rw [ed]
      exact key (4096 - (po + bf) % 4096) false (by omega) (by omega) (fun h => by cases h) (fun _ => by omega)
end
end Go.Proofs.YtkejocbhmcphiaaDoor

set_option linter.unusedVariables false
set_option linter.unusedSimpArgs false
set_option linter.unnecessarySimpa false
namespace Go.Proofs.YtkejocbhmcphiaaDoor
open Go Go.Den Go.Proofs
/-! The encoder. -/
theorem Rd1.app {l X : List HP} {p : Option Addr} {xs : List UInt8} (h : Rd1 l p xs) : Rd1 (X ++ l) p xs := by
  induction X with
  | nil => exact h
  | cons c X ih => exact ih.there
theorem SatP.mid {k : PH} {X a l : List HP} (h : SatP k (X ++ (a ++ l))) : SatP k (a ++ (X ++ l)) := by
  refine SatP.perm ?_ h
  rw [← List.append_assoc, ← List.append_assoc]
  exact (List.perm_append_comm).append_right l
theorem guardB_t {b : Bool} {X : Prop} (h : b = true) (x : X) : guardB b X := by subst h; exact x
theorem noPan_i {R : Ending → Heap → Prop} {X : Prop} (h : ∀ ch H, ¬ R (.panicked ch) H) (x : X) : noPan R X := ⟨h, x⟩
section
variable {H : Heap} {l : List HP} {pg wb : Nat}
/-- The pieces that stand on top, apart from the writer's own. -/
theorem PwS.take {l1 : List HP} {all : List UInt8} (h : PwS H pg wb all (l1 ++ l)) : ∃ m, Sat H (l1 ++ m) ∧ (∀ H1 l2, Sat H1 (l2 ++ m) → PwS H1 pg wb all (l2 ++ l)) ∧ ∀ p xs, Rd1 l p xs → Rd1 m p xs := by
  obtain ⟨b, bc, xs, po, bf, q, c, buf, I, i3, S⟩ := h
  refine ⟨pwL pg wb b bc xs po bf q c buf l, ⟨?_⟩, ?_, ?_⟩
  · exact SatP.mid (X := [pt pg (pgO b xs.length bc), sl bC 5 1 b xs.length bc xs, pt wb (pwO pg po bf q c), sl bC 5 1 q 135168 c buf]) S.out
  · intro H1 l2 S1
    refine ⟨b, bc, xs, po, bf, q, c, buf, I, i3, ⟨?_⟩⟩
    exact SatP.mid (a := [pt pg (pgO b xs.length bc), sl bC 5 1 b xs.length bc xs, pt wb (pwO pg po bf q c), sl bC 5 1 q 135168 c buf]) S1.out
  · intro p xs h
    exact h.there.there.there.there
theorem assert_ok {msg : ByteArray} {p : Option Addr} {n c : Nat} : CallsH Tryd.prog 43 ⟨[.bool true, .string msg, .slice p n c]⟩ H (Gives (.tuple ⟨[]⟩) H) := by
  refine F43.calls ?_
  unfold F43.go
  exact ⟨rfl, ExtH.refl H⟩
theorem newpw_ok {po : Nat} (hp : po ≤ 2097152) (S : Sat H (pt pg (pgO none 0 0) :: l)) :
    CallsH Tryd.prog 34 ⟨[.iface 49 (.pointer (some ⟨pg, 0, none⟩)), .int .i64 4096, .int .i64 (po : Int)]⟩ H (fun e H1 => ∃ wb : Nat, e = .returned (.pointer (some ⟨wb, 0, none⟩)) ∧ PwS H1 pg wb [] l) := by
  refine F34.calls (w := .mk 49 _) ?_
  unfold F34.go
  (repeat (first | (refine Step.go ?_; intros) | refine iteB_t (by decide) ?_ | refine iteB_f (by decide) ?_ | (refine Duo.mk (by first | omega | exact rfl | decide) ?_; intros) | (refine Duo.mk (Clo.mk (by kernel_rfl)) ?_; intros)))
  rename_i r H1 S1
  refine gives_i S1 assert_ok fun H2 E2 S2 => ?_
  clear S S1
  have e1 : IntKind.wrap .i64 ((131072 : Int) + 4096) = 135168 := by decide
  rw [e1]
  (repeat (first | (refine Step.go ?_; intros) | refine iteB_t (by decide) ?_ | refine iteB_f (by decide) ?_ | (refine Duo.mk (by first | omega | exact rfl | decide) ?_; intros) | (refine Duo.mk (Clo.mk (by kernel_rfl)) ?_; intros)))
  rename_i r1 H3 S3
  clear S2
  refine guardB_t rfl ?_
  (repeat (first | (refine Step.go ?_; intros) | refine iteB_t (by decide) ?_ | refine iteB_f (by decide) ?_ | (refine Duo.mk (by first | omega | exact rfl | decide) ?_; intros) | (refine Duo.mk (Clo.mk (by kernel_rfl)) ?_; intros)))
  rename_i r2 H4 S4
  refine ⟨r2, rfl, none, 0, [], po, 0, some ⟨r1, 0, none⟩, 135168, zerosB 135168, ⟨by unfold zerosB; rw [List.length_replicate], by omega, hp, by simp⟩, by omega, ?_⟩
  have e2 : repZ [.int .u8 (0 : Int)] ((135168 : Int).toNat) = [] ++ (zerosB 135168).flatMap bC ++ [] := by
    rw [List.nil_append, List.append_nil]; exact rep_zeros 135168
  rw [e2] at S4
  refine S4.to ?_
  unfold pwL
  apply Ent.pick; (focus (repeat (first | exact Sel.here | apply Sel.there)))
  refine Ent.slNil ?_
  refine Ent.cons ?_
  refine Ent.trans (Ent.slClose (f := bC) (z := 1) (n := 135168) (c := 135168) (pre := []) (sp := []) (xs := zerosB 135168) (by unfold zerosB; rw [List.length_replicate]) (by intro x _; rfl) (Nat.le_refl _) rfl (by simp)) ?_
  exact Ent.cons (Ent.drop Ent.refl)
/-! write -/
def frameB (b : List UInt8) : List UInt8 := le8 (lenF b.length) ++ (b ++ zerosB (padOf b.length))
theorem wr_ok {all us ys : List UInt8} {p q : Option Addr} {qc m : Nat} (hm : m < 18446744073709551616) (hu : us.length = 8) (hl : all.length + ys.length ≤ 140737488351000) (hq : ys.length ≤ qc) (R : Rd1 l q ys) (S : PwS H pg wb all (sl bC 5 1 p 8 8 us :: l)) :
    CallsH Tryd.prog 41 ⟨[.iface 94 (.pointer (some ⟨wb, 0, none⟩)), .slice p 8 8, .slice q ys.length qc, .int .u64 (m : Int)]⟩ H (fun e H1 => e = .returned .nilIface ∧ PwS H1 pg wb (all ++ le8 m ++ ys) (sl bC 5 1 p 8 8 (le8 m) :: l)) := by
  refine F41.calls (w := .mk 94 _) ?_
  unfold F41.go
  obtain ⟨t, S1, back, rd⟩ := S.take (l1 := [sl bC 5 1 p 8 8 us])
  refine call_of (putle_ok hm hu S1) ?_
  rintro e H1 ⟨rfl, S2⟩
  have S3 := back H1 [sl bC 5 1 p 8 8 (le8 m)] S2
  clear S1 S2
  (repeat (first | (refine Step.go ?_; intros) | refine iteB_t (by decide) ?_ | refine iteB_f (by decide) ?_ | (refine Duo.mk (by first | omega | exact rfl | decide) ?_; intros) | (refine Duo.mk (Clo.mk (by kernel_rfl)) ?_; intros)))
  refine callI_i (f := 84) (by kernel_rfl) (by kernel_rfl) (by kernel_rfl) ?_
  have hle := le8_len m
  have hw := write_ok (H := H1) (all := all) (pg := pg) (wb := wb) (p := p) (pc := 8) (ys := le8 m) (by omega) (by omega) (Rd1.of_sl (List.mem_cons_self ..)) S3
  rw [hle] at hw
  refine call_of hw ?_
  rintro e H2 ⟨n, rfl, S4⟩
  (repeat (first | (refine Step.go ?_; intros) | refine iteB_t (by decide) ?_ | refine iteB_f (by decide) ?_ | (refine Duo.mk (by first | omega | exact rfl | decide) ?_; intros) | (refine Duo.mk (Clo.mk (by kernel_rfl)) ?_; intros)))
  refine callI_i (f := 84) (by kernel_rfl) (by kernel_rfl) (by kernel_rfl) ?_
  refine call_of (write_ok (by rw [List.length_append]; omega) hq R.there S4) ?_
  rintro e H3 ⟨n', rfl, S5⟩
  (repeat (first | (refine Step.go ?_; intros) | refine iteB_t (by decide) ?_ | refine iteB_f (by decide) ?_ | (refine Duo.mk (by first | omega | exact rfl | decide) ?_; intros) | (refine Duo.mk (Clo.mk (by kernel_rfl)) ?_; intros)))
  exact ⟨rfl, S5⟩
end
end Go.Proofs.YtkejocbhmcphiaaDoor

set_option linter.unusedVariables false
set_option linter.unusedSimpArgs false
set_option linter.unnecessarySimpa false
namespace Go.Proofs.YtkejocbhmcphiaaDoor
open Go Go.Den Go.Proofs
/-! One record encoded. -/
abbrev enO (wb sb : Nat) (p : Option Addr) : Obj := .cells ⟨[.pointer (some ⟨wb, 0, none⟩), .pointer (some ⟨sb, 0, none⟩), .slice p 8 8]⟩ 97
def EncS (H : Heap) (eb pg : Nat) (all : List UInt8) (s : W32) (l : List HP) : Prop := ∃ wb sb p us, us.length = 8 ∧ PwS H pg wb all (sl bC 5 1 p 8 8 us :: pt eb (enO wb sb p) :: pt sb (smO s) :: l)
section
variable {H : Heap} {l : List HP} {pg eb : Nat}
theorem EncS.take {l1 : List HP} {all : List UInt8} {s : W32} (h : EncS H eb pg all s (l1 ++ l)) : ∃ m, Sat H (l1 ++ m) ∧ (∀ H1 l2, Sat H1 (l2 ++ m) → EncS H1 eb pg all s (l2 ++ l)) ∧ ∀ p xs, Rd1 l p xs → Rd1 m p xs := by
  obtain ⟨wb, sb, p, us, hu, P⟩ := h
  obtain ⟨m, S, back, rd⟩ := P.take (l1 := []) (l := sl bC 5 1 p 8 8 us :: pt eb (enO wb sb p) :: pt sb (smO s) :: (l1 ++ l))
  obtain ⟨m2, S2, back2, rd2⟩ := PwS.take (l1 := [sl bC 5 1 p 8 8 us, pt eb (enO wb sb p), pt sb (smO s)] ++ l1) (l := l) (by simpa using P)
  refine ⟨[sl bC 5 1 p 8 8 us, pt eb (enO wb sb p), pt sb (smO s)] ++ m2, ?_, ?_, ?_⟩
  · refine ⟨SatP.mid ?_⟩
    rw [← List.append_assoc]
    exact S2.out
  · intro H1 l2 S3
    refine ⟨wb, sb, p, us, hu, ?_⟩
    have := back2 H1 ([sl bC 5 1 p 8 8 us, pt eb (enO wb sb p), pt sb (smO s)] ++ l2) ⟨by
      rw [List.append_assoc]
      exact SatP.mid S3.out⟩
    simpa using this
  · intro p xs h
    exact (rd2 p xs h).app
theorem lock_ok {v : Value} : CallsH Tryd.prog 35 ⟨[.pointer (some ⟨eb, 0, none⟩)]⟩ H (Gives (.tuple ⟨[]⟩) H) := by
  refine F35.calls ?_
  unfold F35.go
  exact ⟨rfl, ExtH.refl H⟩
theorem lockA {a : Addr} : CallsH Tryd.prog 35 ⟨[.pointer (some a)]⟩ H (Gives (.tuple ⟨[]⟩) H) := by
  refine F35.calls ?_
  unfold F35.go
  exact ⟨rfl, ExtH.refl H⟩
theorem newenc_ok {po : Nat} {s : W32} (hp : po ≤ 2097152) (S : Sat H (pt pg (pgO none 0 0) :: l)) :
    CallsH Tryd.prog 29 ⟨[.iface 49 (.pointer (some ⟨pg, 0, none⟩)), .int .u32 (iv s), .int .i64 (po : Int)]⟩ H (fun e H1 => ∃ eb : Nat, e = .returned (.pointer (some ⟨eb, 0, none⟩)) ∧ EncS H1 eb pg [] s l) := by
  have e0' : ∀ (r : Nat) (t : List HP), Ent (pt r (.cells ⟨repZ [.int .u8 (0 : Int)] ((8 : Int).toNat)⟩ 5) :: t) (sl bC 5 1 (some ⟨r, 0, none⟩) 8 8 (zerosB 8) :: t) := by
    intro r t
    have e2 : repZ [.int .u8 (0 : Int)] ((8 : Int).toNat) = [] ++ (zerosB 8).flatMap bC ++ [] := by
      rw [List.nil_append, List.append_nil]; exact rep_zeros 8
    rw [e2]
    exact Ent.slClose (f := bC) (z := 1) (n := 8) (c := 8) (pre := []) (sp := []) (xs := zerosB 8) (by unfold zerosB; rw [List.length_replicate]) (by intro x _; rfl) (Nat.le_refl _) rfl (by simp)
  have hz : (zerosB 8).length = 8 := by unfold zerosB; rw [List.length_replicate]
  refine F29.calls (w := .mk 49 _) ?_
  unfold F29.go
  refine ⟨?_, ?_, ?_⟩
  · (repeat (first | (refine Step.go ?_; intros) | refine iteB_t (by decide) ?_ | refine iteB_f (by decide) ?_ | (refine Duo.mk (by first | omega | exact rfl | decide) ?_; intros) | (refine Duo.mk (Clo.mk (by kernel_rfl)) ?_; intros)))
    rename_i r H1 S1
    refine call_of (newpw_ok hp (S1.to Ent.swp)) ?_
    rintro e H2 ⟨wb, rfl, P⟩
    obtain ⟨m, S2, back, rd⟩ := P.take (l1 := [pt r (.cells ⟨repZ [.int .u8 (0 : Int)] ((8 : Int).toNat)⟩ 5)]) (l := l)
    clear S S1
    (repeat (first | (refine Step.go ?_; intros) | refine iteB_t (by decide) ?_ | refine iteB_f (by decide) ?_ | (refine Duo.mk (by first | omega | exact rfl | decide) ?_; intros) | (refine Duo.mk (Clo.mk (by kernel_rfl)) ?_; intros)))
    refine grow_i S2 at_ok fun sb H3 E3 S3 => ?_
    clear S2
    simp only [List.cons_append, List.nil_append] at S3
    (repeat (first | (refine Step.go ?_; intros) | refine iteB_t (by decide) ?_ | refine iteB_f (by decide) ?_ | (refine Duo.mk (by first | omega | exact rfl | decide) ?_; intros) | (refine Duo.mk (Clo.mk (by kernel_rfl)) ?_; intros)))
    rename_i eb H4 S4
    refine ⟨eb, rfl, wb, sb, some ⟨r, 0, none⟩, zerosB 8, hz, back H4 (sl bC 5 1 (some ⟨r, 0, none⟩) 8 8 (zerosB 8) :: pt eb (enO wb sb (some ⟨r, 0, none⟩)) :: pt sb (smO s) :: []) (S4.to ?_)⟩
    refine Ent.trans ?_ (e0' r _)
    apply Ent.pick; (focus (repeat (first | exact Sel.here | apply Sel.there)))
    exact Ent.refl
  · refine call_of (newpw_ok hp S) ?_
    rintro e H2 ⟨wb, rfl, P⟩
    obtain ⟨m, S2, back, rd⟩ := P.take (l1 := []) (l := l)
    simp only [List.nil_append] at S2
    clear S
    (repeat (first | (refine Step.go ?_; intros) | refine iteB_t (by decide) ?_ | refine iteB_f (by decide) ?_ | (refine Duo.mk (by first | omega | exact rfl | decide) ?_; intros) | (refine Duo.mk (Clo.mk (by kernel_rfl)) ?_; intros)))
    rename_i r H1 S1
    refine grow_i S1 at_ok fun sb H3 E3 S3 => ?_
    clear S1 S2
    simp only [List.cons_append, List.nil_append] at S3
    (repeat (first | (refine Step.go ?_; intros) | refine iteB_t (by decide) ?_ | refine iteB_f (by decide) ?_ | (refine Duo.mk (by first | omega | exact rfl | decide) ?_; intros) | (refine Duo.mk (Clo.mk (by kernel_rfl)) ?_; intros)))
    rename_i eb H4 S4
    refine ⟨eb, rfl, wb, sb, some ⟨r, 0, none⟩, zerosB 8, hz, back H4 (sl bC 5 1 (some ⟨r, 0, none⟩) 8 8 (zerosB 8) :: pt eb (enO wb sb (some ⟨r, 0, none⟩)) :: pt sb (smO s) :: []) (S4.to ?_)⟩
    refine Ent.trans ?_ (e0' r _)
    apply Ent.pick; (focus (repeat (first | exact Sel.here | apply Sel.there)))
    exact Ent.refl
  · refine call_of (newpw_ok hp S) ?_
    rintro e H2 ⟨wb, rfl, P⟩
    obtain ⟨m, S2, back, rd⟩ := P.take (l1 := []) (l := l)
    simp only [List.nil_append] at S2
    clear S
    (repeat (first | (refine Step.go ?_; intros) | refine iteB_t (by decide) ?_ | refine iteB_f (by decide) ?_ | (refine Duo.mk (by first | omega | exact rfl | decide) ?_; intros) | (refine Duo.mk (Clo.mk (by kernel_rfl)) ?_; intros)))
    refine grow_i S2 at_ok fun sb H3 E3 S3 => ?_
    clear S2
    simp only [List.cons_append, List.nil_append] at S3
    (repeat (first | (refine Step.go ?_; intros) | refine iteB_t (by decide) ?_ | refine iteB_f (by decide) ?_ | (refine Duo.mk (by first | omega | exact rfl | decide) ?_; intros) | (refine Duo.mk (Clo.mk (by kernel_rfl)) ?_; intros)))
    rename_i r H5 S5 eb H4 S4
    refine ⟨eb, rfl, wb, sb, some ⟨r, 0, none⟩, zerosB 8, hz, back H4 (sl bC 5 1 (some ⟨r, 0, none⟩) 8 8 (zerosB 8) :: pt eb (enO wb sb (some ⟨r, 0, none⟩)) :: pt sb (smO s) :: []) (S4.to ?_)⟩
    refine Ent.trans ?_ (e0' r _)
    apply Ent.pick; (focus (repeat (first | exact Sel.here | apply Sel.there)))
    exact Ent.refl
theorem zznew_ok {po : Nat} {s : W32} (hp : po ≤ 2097152) (S : Sat H (pt pg (pgO none 0 0) :: l)) :
    CallsH Tryd.prog 18 ⟨[.iface 49 (.pointer (some ⟨pg, 0, none⟩)), .int .u32 (iv s), .int .i64 (po : Int)]⟩ H (fun e H1 => ∃ eb : Nat, e = .returned (.agg ⟨[.pointer (some ⟨eb, 0, none⟩)]⟩) ∧ EncS H1 eb pg [] s l) := by
  refine F18.calls (w := .mk 49 _) ?_
  unfold F18.go
  (repeat (first | (refine Step.go ?_; intros) | refine iteB_t (by decide) ?_ | refine iteB_f (by decide) ?_ | (refine Duo.mk (by first | omega | exact rfl | decide) ?_; intros) | (refine Duo.mk (Clo.mk (by kernel_rfl)) ?_; intros)))
  rename_i r H1 S1
  refine call_of (newenc_ok hp (S1.to Ent.swp)) ?_
  rintro e H2 ⟨eb, rfl, P⟩
  obtain ⟨m, S2, back, rd⟩ := P.take (l1 := [pt r (.cells ⟨[.pointer none]⟩ 54)]) (l := l)
  clear S S1
  simp only [List.cons_append, List.nil_append] at S2
  (repeat (first | (refine Step.go ?_; intros) | refine iteB_t (by decide) ?_ | refine iteB_f (by decide) ?_ | (refine Duo.mk (by first | omega | exact rfl | decide) ?_; intros) | (refine Duo.mk (Clo.mk (by kernel_rfl)) ?_; intros)))
  exact ⟨eb, rfl, back _ [] (Sat.to ‹Sat _ (pt r _ :: m)› (Ent.drop Ent.refl))⟩
/-! ### encode -/
theorem zfE {wb sb : Nat} {p : Option Addr} {k : Addr → Prop} [S : Sat H l] [A : At eb (enO wb sb p) l] (h : ∀ a, k a) : zfD Tryd.prog H 97 0 (.pointer (some ⟨eb, 0, none⟩)) k := zf_i (by kernel_rfl) (A.get S) h
def datL (d : Option (List UInt8)) : List UInt8 := match d with | some ys => ys | none => []
theorem DatR.len {q : Option Addr} {qn : Nat} {d : Option (List UInt8)} (D : DatR l q qn d) : (datL d).length = qn := by
  cases d with
  | none => exact D.2.symm
  | some ys => exact D.2.1
theorem DatR.rd {q : Option Addr} {qn : Nat} {d : Option (List UInt8)} (D : DatR l q qn d) : Rd1 l q (datL d) := by
  cases d with
  | none => exact Rd1.nil
  | some ys => exact D.2.2
theorem DatR.ent {m : List HP} {q : Option Addr} {qn : Nat} {d : Option (List UInt8)} (D : DatR l q qn d) (h : ∀ p xs, Rd1 l p xs → Rd1 m p xs) : DatR m q qn d := by
  cases d with
  | none => exact D
  | some ys => exact ⟨D.1, D.2.1, h _ _ D.2.2⟩
theorem dlen_datL (d : Option (List UInt8)) : dlen d = (datL d).length := by cases d <;> rfl
theorem enc_ok {rb tb : Nat} {ty : Int} {s : W32} {all : List UInt8} {q : Option Addr} {qn qc : Nat} {d : Option (List UInt8)} (hd : dlen d ≤ 1000000) (hl : all.length ≤ 1000000000) (D : DatR l q qn d)
    (P : EncS H eb pg all s (pt rb (rcO (some ⟨tb, 0, none⟩) none q qn qc) :: pt tb (.cells ⟨[.int .i64 ty]⟩ 2) :: l)) :
    CallsH Tryd.prog 30 ⟨[.pointer (some ⟨eb, 0, none⟩), .pointer (some ⟨rb, 0, none⟩)]⟩ H (fun e H1 => e = .returned .nilIface ∧ EncS H1 eb pg (all ++ frameB (body ty (crcUpd s (datL d)) d)) (crcUpd s (datL d)) l) := by
  obtain ⟨wb, sb, p, us, hu, P⟩ := P
  obtain ⟨m, S, back, rd⟩ := P.take (l1 := [sl bC 5 1 p 8 8 us, pt eb (enO wb sb p), pt sb (smO s), pt rb (rcO (some ⟨tb, 0, none⟩) none q qn qc), pt tb (.cells ⟨[.int .i64 ty]⟩ 2)]) (l := l)
  simp only [List.cons_append, List.nil_append] at S
  have Dm := D.ent rd
  refine F30.calls ?_
  unfold F30.go
  (repeat (first | (refine Step.go ?_; intros) | refine iteB_t (by decide) ?_ | refine iteB_f (by decide) ?_ | (refine Duo.mk (by first | omega | exact rfl | decide) ?_; intros) | (refine Duo.mk (Clo.mk (by kernel_rfl)) ?_; intros)))
  refine zfE fun a2 => ?_
  refine gives_i S lockA fun H1 E1 S1 => ?_
  clear S
  (repeat (first | (refine Step.go ?_; intros) | refine iteB_t (by decide) ?_ | refine iteB_f (by decide) ?_ | (refine Duo.mk (by first | omega | exact rfl | decide) ?_; intros) | (refine Duo.mk (Clo.mk (by kernel_rfl)) ?_; intros)))
  refine noPan_i (by rintro ch H' ⟨h, _⟩; cases h) ?_
  refine guardB_t (by kernel_rfl) ?_
  (repeat (first | (refine Step.go ?_; intros) | refine iteB_t (by decide) ?_ | refine iteB_f (by decide) ?_ | (refine Duo.mk (by first | omega | exact rfl | decide) ?_; intros) | (refine Duo.mk (Clo.mk (by kernel_rfl)) ?_; intros)))
  refine zfE fun a4 => ?_
  (repeat (first | (refine Step.go ?_; intros) | refine iteB_t (by decide) ?_ | refine iteB_f (by decide) ?_ | (refine Duo.mk (by first | omega | exact rfl | decide) ?_; intros) | (refine Duo.mk (Clo.mk (by kernel_rfl)) ?_; intros)))
  have h1 := Dm.len
  subst h1
  have h2 := dlen_datL d
  have Sc : Sat H1 (pt sb (smO s) :: sl bC 5 1 p 8 8 us :: pt eb (enO wb sb p) :: pt rb (rcO (some ⟨tb, 0, none⟩) none q (datL d).length qc) :: pt tb (.cells ⟨[.int .i64 ty]⟩ 2) :: m) := S1.to (by
    apply Ent.pick; (focus (repeat (first | exact Sel.here | apply Sel.there))); exact Ent.refl)
  refine call_of (crc_ok (by omega) Sc (Dm.rd.there.there.there.there)) ?_
  rintro e H2 ⟨rfl, S2⟩
  clear S1 Sc
  (repeat (first | (refine Step.go ?_; intros) | refine iteB_t (by decide) ?_ | refine iteB_f (by decide) ?_ | (refine Duo.mk (by first | omega | exact rfl | decide) ?_; intros) | (refine Duo.mk (Clo.mk (by kernel_rfl)) ?_; intros)))
  refine gives_i S2 (sum_ok (A := old H2) S2) fun H3 E3 S3 => ?_
  clear S2
  (repeat (first | (refine Step.go ?_; intros) | refine iteB_t (by decide) ?_ | refine iteB_f (by decide) ?_ | (refine Duo.mk (by first | omega | exact rfl | decide) ?_; intros) | (refine Duo.mk (Clo.mk (by kernel_rfl)) ?_; intros)))
  rename_i r H4 S4 H5 S5
  clear S3 S4
  have Sm : Sat H5 (pt rb (rcO (some ⟨tb, 0, none⟩) (some ⟨r, 0, none⟩) q (datL d).length qc) :: pt tb (.cells ⟨[.int .i64 ty]⟩ 2) :: pt r (.cells ⟨[.int .u32 (iv (crcUpd s (datL d)))]⟩ 22) :: sl bC 5 1 p 8 8 us :: pt eb (enO wb sb p) :: pt sb (smO (crcUpd s (datL d))) :: m) := S5.to (by
    iterate 6 (apply Ent.pick; (focus (repeat (first | exact Sel.here | apply Sel.there))))
    exact Ent.refl)
  refine call_of (marshal_ok (by omega) (Dm.ent fun p xs h => h.there.there.there) Sm) ?_
  rintro e H6 ⟨q1, c1, rfl, S6⟩
  clear S5 Sm
  (repeat (first | (refine Step.go ?_; intros) | refine iteB_t (by decide) ?_ | refine iteB_f (by decide) ?_ | (refine Duo.mk (by first | omega | exact rfl | decide) ?_; intros) | (refine Duo.mk (Clo.mk (by kernel_rfl)) ?_; intros)))
  have hb := body_len ty (crcUpd s (datL d)) d
  refine call_of (prep_ok (by omega) S6) ?_
  rintro e H7 ⟨q2, c2, rfl, S7⟩
  clear S6
  (repeat (first | (refine Step.go ?_; intros) | refine iteB_t (by decide) ?_ | refine iteB_f (by decide) ?_ | (refine Duo.mk (by first | omega | exact rfl | decide) ?_; intros) | (refine Duo.mk (Clo.mk (by kernel_rfl)) ?_; intros)))
  have hc2 := (S7.slLen (List.mem_cons_self ..)).2
  have hpd := padOf_lt (body ty (crcUpd s (datL d)) d).length
  generalize hB : body ty (crcUpd s (datL d)) d = B at *
  have P7 : PwS H7 pg wb all (sl bC 5 1 p 8 8 us :: sl bC 5 1 q2 (B ++ zerosB (padOf B.length)).length c2 (B ++ zerosB (padOf B.length)) :: pt eb (enO wb sb p) :: pt sb (smO (crcUpd s (datL d))) :: l) :=
    back H7 (sl bC 5 1 p 8 8 us :: sl bC 5 1 q2 (B ++ zerosB (padOf B.length)).length c2 (B ++ zerosB (padOf B.length)) :: pt eb (enO wb sb p) :: pt sb (smO (crcUpd s (datL d))) :: []) (S7.to (by
      iterate 4 (apply Ent.pick; (focus (repeat (first | exact Sel.here | apply Sel.there))))
      exact Ent.drop (Ent.drop (Ent.drop Ent.refl))))
  have hBl : (B ++ zerosB (padOf B.length)).length = B.length + padOf B.length := by unfold zerosB; rw [List.length_append, List.length_replicate]
  refine call_of (wr_ok (lenF_lt (by omega)) hu (by omega) hc2 (Rd1.of_sl (List.mem_cons_self ..)) P7) ?_
  rintro e H8 ⟨rfl, P8⟩
  (repeat (first | (refine Step.go ?_; intros) | refine iteB_t (by decide) ?_ | refine iteB_f (by decide) ?_ | (refine Duo.mk (by first | omega | exact rfl | decide) ?_; intros) | (refine Duo.mk (Clo.mk (by kernel_rfl)) ?_; intros)))
  refine ⟨rfl, wb, sb, p, le8 (lenF B.length), le8_len _, ?_⟩
  obtain ⟨m2, S8, back2, rd2⟩ := P8.take (l1 := [sl bC 5 1 p 8 8 (le8 (lenF B.length)), sl bC 5 1 q2 (B ++ zerosB (padOf B.length)).length c2 (B ++ zerosB (padOf B.length)), pt eb (enO wb sb p), pt sb (smO (crcUpd s (datL d)))]) (l := l)
  have P9 := back2 H8 [sl bC 5 1 p 8 8 (le8 (lenF B.length)), pt eb (enO wb sb p), pt sb (smO (crcUpd s (datL d)))] (S8.to (.cons (.drop .refl)))
  rw [List.append_assoc] at P9
  exact P9
theorem encode_ok {rb tb : Nat} {ty : Int} {s : W32} {all : List UInt8} {q : Option Addr} {qn qc : Nat} {d : Option (List UInt8)} (hd : dlen d ≤ 1000000) (hl : all.length ≤ 1000000000) (D : DatR l q qn d)
    (P : EncS H eb pg all s (pt rb (rcO (some ⟨tb, 0, none⟩) none q qn qc) :: pt tb (.cells ⟨[.int .i64 ty]⟩ 2) :: l)) :
    CallsH Tryd.prog 19 ⟨[.agg ⟨[.pointer (some ⟨eb, 0, none⟩)]⟩, .pointer (some ⟨rb, 0, none⟩)]⟩ H (fun e H1 => e = .returned .nilIface ∧ EncS H1 eb pg (all ++ frameB (body ty (crcUpd s (datL d)) d)) (crcUpd s (datL d)) l) := by
  refine F19.calls ?_
  unfold F19.go
  obtain ⟨m, S, back, rd⟩ := P.take (l1 := []) (l := pt rb (rcO (some ⟨tb, 0, none⟩) none q qn qc) :: pt tb (.cells ⟨[.int .i64 ty]⟩ 2) :: l)
  simp only [List.nil_append] at S
  (repeat (first | (refine Step.go ?_; intros) | refine iteB_t (by decide) ?_ | refine iteB_f (by decide) ?_ | (refine Duo.mk (by first | omega | exact rfl | decide) ?_; intros) | (refine Duo.mk (Clo.mk (by kernel_rfl)) ?_; intros)))
  rename_i r H1 S1
  have P1 := back H1 [pt r (.cells ⟨[.pointer (some ⟨eb, 0, none⟩)]⟩ 54)] S1
  obtain ⟨m2, S2, back2, rd2⟩ := P1.take (l1 := [pt r (.cells ⟨[.pointer (some ⟨eb, 0, none⟩)]⟩ 54), pt rb (rcO (some ⟨tb, 0, none⟩) none q qn qc), pt tb (.cells ⟨[.int .i64 ty]⟩ 2)]) (l := l)
  refine call_of (enc_ok hd hl D (back2 H1 [pt rb (rcO (some ⟨tb, 0, none⟩) none q qn qc), pt tb (.cells ⟨[.int .i64 ty]⟩ 2)] (S2.to (.drop .refl)))) ?_
  rintro e H3 ⟨rfl, P3⟩
  (repeat (first | (refine Step.go ?_; intros) | refine iteB_t (by decide) ?_ | refine iteB_f (by decide) ?_ | (refine Duo.mk (by first | omega | exact rfl | decide) ?_; intros) | (refine Duo.mk (Clo.mk (by kernel_rfl)) ?_; intros)))
  exact ⟨rfl, P3⟩
end
end Go.Proofs.YtkejocbhmcphiaaDoor

set_option linter.unusedVariables false
set_option linter.unusedSimpArgs false
set_option linter.unnecessarySimpa false
namespace Go.Proofs.YtkejocbhmcphiaaDoor
open Go Go.Den Go.Proofs
/-! A log written. -/
structure WR where
  ty : Int
  hasT : Bool
  crc : Int
  hasC : Bool
  data : ByteArray
  hasD : Bool
abbrev WR.cells (r : WR) : List Value := [.int .i64 r.ty, .bool r.hasT, .int .u32 r.crc, .bool r.hasC, .string r.data, .bool r.hasD]
def dat (r : WR) : Option (List UInt8) := if r.hasD = true then some r.data.data.toList else none
def stepS (s : W32) (r : WR) : W32 := crcUpd s (datL (dat r))
def recB (s : W32) (r : WR) : List UInt8 := frameB (body r.ty (stepS s r) (dat r))
def logP : W32 → List WR → List (List UInt8)
  | _, [] => []
  | s, r :: rs => recB s r :: logP (stepS s r) rs
def sumsP : W32 → List WR → List W32
  | _, [] => []
  | s, r :: rs => stepS s r :: sumsP (stepS s r) rs
def lastS (s : W32) (rs : List WR) : W32 := rs.foldl stepS s
def logB (s : W32) (rs : List WR) : List UInt8 := (logP s rs).flatten
theorem logP_snoc : ∀ (rs : List WR) (s : W32) (r : WR), logP s (rs ++ [r]) = logP s rs ++ [recB (lastS s rs) r]
  | [], s, r => rfl
  | x :: rs, s, r => by
    simp only [List.cons_append, logP, logP_snoc rs, lastS, List.foldl_cons]
theorem logB_snoc (rs : List WR) (s : W32) (r : WR) : logB s (rs ++ [r]) = logB s rs ++ recB (lastS s rs) r := by
  unfold logB
  rw [logP_snoc, List.flatten_append]
  simp
theorem lastS_snoc (rs : List WR) (s : W32) (r : WR) : lastS s (rs ++ [r]) = stepS (lastS s rs) r := by
  unfold lastS; rw [List.foldl_append]; rfl
def GoodR (r : WR) : Prop := r.hasT = true ∧ r.data.size ≤ 5000 ∧ (r.hasD = false → r.data = ByteArray.mk #[]) ∧ (r.ty = 4 → r.hasD = false)
theorem frameB_len (b : List UInt8) : (frameB b).length = 8 + (b.length + padOf b.length) := by
  unfold frameB zerosB
  simp only [List.length_append, le8_len, List.length_replicate]
theorem dat_len {r : WR} (h : GoodR r) : dlen (dat r) ≤ 5000 := by
  unfold dat dlen
  have := h.2.1
  split
  · rename_i ys hy
    split at hy
    · cases hy; exact this
    · cases hy
  · omega
theorem recB_len {s : W32} {r : WR} (h : GoodR r) : (recB s r).length ≤ 5060 := by
  unfold recB
  rw [frameB_len]
  have h1 := body_len r.ty (stepS s r) (dat r)
  have h2 := dat_len h
  have h3 := padOf_lt (body r.ty (stepS s r) (dat r)).length
  omega
theorem logB_len : ∀ {rs : List WR} {s : W32}, (∀ r ∈ rs, GoodR r) → (logB s rs).length ≤ 5060 * rs.length
  | [], s, h => by simp [logB, logP]
  | r :: rs, s, h => by
    have h1 := recB_len (s := s) (h r (List.mem_cons_self ..))
    have h2 := logB_len (rs := rs) (s := stepS s r) fun x hx => h x (List.mem_cons_of_mem _ hx)
    unfold logB at h2 ⊢
    simp only [logP, List.flatten_cons, List.length_append, List.length_cons]
    omega
section
variable {H : Heap} {l : List HP} {pg eb : Nat}
theorem flushE_ok {all : List UInt8} {s : W32} (hl : all.length ≤ 1000000000) (P : EncS H eb pg all s l) :
    CallsH Tryd.prog 31 ⟨[.pointer (some ⟨eb, 0, none⟩)]⟩ H (fun e H1 => e = .returned .nilIface ∧ ∃ b bc, Sat H1 (pt pg (pgO b all.length bc) :: sl bC 5 1 b all.length bc all :: l)) := by
  obtain ⟨wb, sb, p, us, hu, P⟩ := P
  obtain ⟨m, S, back, rd⟩ := P.take (l1 := [sl bC 5 1 p 8 8 us, pt eb (enO wb sb p), pt sb (smO s)]) (l := l)
  simp only [List.cons_append, List.nil_append] at S
  refine F31.calls ?_
  unfold F31.go
  (repeat (first | (refine Step.go ?_; intros) | refine iteB_t (by decide) ?_ | refine iteB_f (by decide) ?_ | (refine Duo.mk (by first | omega | exact rfl | decide) ?_; intros) | (refine Duo.mk (Clo.mk (by kernel_rfl)) ?_; intros)))
  refine zfE fun a2 => ?_
  refine gives_i S lockA fun H1 E1 S1 => ?_
  clear S
  (repeat (first | (refine Step.go ?_; intros) | refine iteB_t (by decide) ?_ | refine iteB_f (by decide) ?_ | (refine Duo.mk (by first | omega | exact rfl | decide) ?_; intros) | (refine Duo.mk (Clo.mk (by kernel_rfl)) ?_; intros)))
  refine noPan_i (by rintro ch H' ⟨h, _⟩; cases h) ?_
  refine guardB_t (by kernel_rfl) ?_
  (repeat (first | (refine Step.go ?_; intros) | refine iteB_t (by decide) ?_ | refine iteB_f (by decide) ?_ | (refine Duo.mk (by first | omega | exact rfl | decide) ?_; intros) | (refine Duo.mk (Clo.mk (by kernel_rfl)) ?_; intros)))
  refine zfE fun a4 => ?_
  (repeat (first | (refine Step.go ?_; intros) | refine iteB_t (by decide) ?_ | refine iteB_f (by decide) ?_ | (refine Duo.mk (by first | omega | exact rfl | decide) ?_; intros) | (refine Duo.mk (Clo.mk (by kernel_rfl)) ?_; intros)))
  refine call_of (flush_ok (by omega) (back H1 [sl bC 5 1 p 8 8 us, pt eb (enO wb sb p), pt sb (smO s)] S1).weak) ?_
  rintro e H2 ⟨rfl, b, bc, po, q, c, buf, I, S2⟩
  (repeat (first | (refine Step.go ?_; intros) | refine iteB_t (by decide) ?_ | refine iteB_f (by decide) ?_ | (refine Duo.mk (by first | omega | exact rfl | decide) ?_; intros) | (refine Duo.mk (Clo.mk (by kernel_rfl)) ?_; intros)))
  refine ⟨rfl, b, bc, S2.to ?_⟩
  unfold pwL
  refine .cons (.cons (.drop (.drop ?_)))
  exact .drop (.drop (.drop .refl))
theorem flushZ_ok {all : List UInt8} {s : W32} (hl : all.length ≤ 1000000000) (P : EncS H eb pg all s l) :
    CallsH Tryd.prog 20 ⟨[.agg ⟨[.pointer (some ⟨eb, 0, none⟩)]⟩]⟩ H (fun e H1 => e = .returned .nilIface ∧ ∃ b bc, Sat H1 (pt pg (pgO b all.length bc) :: sl bC 5 1 b all.length bc all :: l)) := by
  refine F20.calls ?_
  unfold F20.go
  obtain ⟨m, S, back, rd⟩ := P.take (l1 := []) (l := l)
  simp only [List.nil_append] at S
  (repeat (first | (refine Step.go ?_; intros) | refine iteB_t (by decide) ?_ | refine iteB_f (by decide) ?_ | (refine Duo.mk (by first | omega | exact rfl | decide) ?_; intros) | (refine Duo.mk (Clo.mk (by kernel_rfl)) ?_; intros)))
  rename_i r H1 S1
  refine call_of (flushE_ok hl (back H1 [] (S1.to (.drop .refl)))) ?_
  rintro e H3 ⟨rfl, b, bc, P3⟩
  (repeat (first | (refine Step.go ?_; intros) | refine iteB_t (by decide) ?_ | refine iteB_f (by decide) ?_ | (refine Duo.mk (by first | omega | exact rfl | decide) ?_; intros) | (refine Duo.mk (Clo.mk (by kernel_rfl)) ?_; intros)))
  exact ⟨rfl, b, bc, P3⟩
theorem some_bytes {s : ByteArray} {r c : Nat} {fr : Nat × Nat} : Rd1 [pt r (.cells ⟨bytesOf s.data.toList ++ List.replicate (c - s.size) (.int .u8 0)⟩ 5 fr)] (some ⟨r, 0, none⟩) s.data.toList := Rd1.of_pt (List.mem_cons_self ..)
abbrev outW (s : W32) (rs : List WR) (q : Option Addr) (n c : Nat) (l : List HP) : Ending → Heap → Prop := fun e H1 => ∃ b bc, e = .returned (.tuple ⟨[.slice b (logB s rs).length bc, .int .i64 0]⟩) ∧ Sat H1 (sl bC 5 1 b (logB s rs).length bc (logB s rs) :: sl WR.cells 38 6 q n c rs :: l)
theorem ww_loop {s : W32} {rs : List WR} {q : Option Addr} {n c r1 : Nat} (hn : rs.length = n) (hn2 : n ≤ 100) (hg : ∀ r ∈ rs, GoodR r) : ∀ (d i : Nat) (H : Heap), i + d = n →
    EncS H eb pg (logB s (rs.take i)) (lastS s (rs.take i)) (pt r1 (.cells ⟨[.pointer (some ⟨eb, 0, none⟩)]⟩ 54) :: sl WR.cells 38 6 q n c rs :: l) →
    F9.L0 q n c pg r1 0 (i : Int) H (outW s rs q n c l) := by
  intro d
  induction d with
  | zero =>
    intro i H hi P
    refine F9.L0_step ?_
    unfold F9.L0n
    refine iteB_f (by simp; omega) ?_
    rw [List.take_of_length_le (by omega)] at P
    obtain ⟨m, S, back, rd⟩ := P.take (l1 := [pt r1 (.cells ⟨[.pointer (some ⟨eb, 0, none⟩)]⟩ 54)]) (l := sl WR.cells 38 6 q n c rs :: l)
    simp only [List.cons_append, List.nil_append] at S
    (repeat (first | (refine Step.go ?_; intros) | refine iteB_t (by decide) ?_ | refine iteB_f (by decide) ?_ | (refine Duo.mk (by first | omega | exact rfl | decide) ?_; intros) | (refine Duo.mk (Clo.mk (by kernel_rfl)) ?_; intros)))
    have hl := logB_len (s := s) hg
    refine call_of (flushZ_ok (by omega) P) ?_
    rintro e H1 ⟨rfl, b, bc, S1⟩
    clear S
    (repeat (first | (refine Step.go ?_; intros) | refine iteB_t (by decide) ?_ | refine iteB_f (by decide) ?_ | (refine Duo.mk (by first | omega | exact rfl | decide) ?_; intros) | (refine Duo.mk (Clo.mk (by kernel_rfl)) ?_; intros)))
    exact ⟨b, bc, rfl, S1.to (.drop (.cons (.drop .refl)))⟩
  | succ d ih =>
    intro i H hi P
    obtain ⟨r, hr⟩ : ∃ r, rs[i]? = some r := get_of (by omega)
    have hI := HasI.nat hr
    have g := hg r (List.mem_of_getElem? hr)
    have g1 := g.1
    have hlB : (logB s (rs.take i)).length ≤ 1000000 := by
      have := logB_len (s := s) (rs := rs.take i) fun x hx => hg x (List.mem_of_mem_take hx)
      rw [List.length_take] at this
      omega
    refine F9.L0_step ?_
    unfold F9.L0n
    refine iteB_t (by simp; omega) ?_
    obtain ⟨m, S, back, rd⟩ := P.take (l1 := [pt r1 (.cells ⟨[.pointer (some ⟨eb, 0, none⟩)]⟩ 54), sl WR.cells 38 6 q n c rs]) (l := l)
    simp only [List.cons_append, List.nil_append] at S
    clear P
    (repeat (first | (refine Step.go ?_; intros) | refine iteB_t (by decide) ?_ | refine iteB_f (by decide) ?_ | (refine Duo.mk (by first | omega | exact rfl | decide) ?_; intros) | (refine Duo.mk (Clo.mk (by kernel_rfl)) ?_; intros)))
    rename_i rb H1 S1
    clear S
    refine S1.idx (f := WR.cells) (E := 38) (z := 6) (xs := rs) ⟨by omega, by omega, fun r0 o0 hr0 => ?_⟩
    subst hr0
    (repeat (first | (refine Step.go ?_; intros) | refine iteB_t (by decide) ?_ | refine iteB_f (by decide) ?_ | (refine Duo.mk (by first | omega | exact rfl | decide) ?_; intros) | (refine Duo.mk (Clo.mk (by kernel_rfl)) ?_; intros)))
    rw [g1]
    refine iteB_t rfl ?_
    (repeat (first | (refine Step.go ?_; intros) | refine iteB_t (by decide) ?_ | refine iteB_f (by decide) ?_ | (refine Duo.mk (by first | omega | exact rfl | decide) ?_; intros) | (refine Duo.mk (Clo.mk (by kernel_rfl)) ?_; intros)))
    rename_i tb H2 S2 H3 S3 H4 S4
    clear S1 S2 S3
    refine F9.L1_step ?_
    unfold F9.L1n
    have last : ∀ (H : Heap) (dq : Option Addr) (dn dc : Nat) (X : List HP), DatR X dq dn (dat r) →
        Sat H (X ++ (pt rb (rcO (some ⟨tb, 0, none⟩) none dq dn dc) :: pt tb (.cells ⟨[.int .i64 r.ty]⟩ 2) :: pt r1 (.cells ⟨[.pointer (some ⟨eb, 0, none⟩)]⟩ 54) :: sl WR.cells 38 6 (some ⟨r0, o0, none⟩) n c rs :: m)) →
        F9.L2 (some ⟨r0, o0, none⟩) n c pg r1 0 (i : Int) rb H (outW s rs (some ⟨r0, o0, none⟩) n c l) := by
      intro H dq dn dc X D S
      refine F9.L2_step ?_
      unfold F9.L2n
      have S' : Sat H (pt r1 (.cells ⟨[.pointer (some ⟨eb, 0, none⟩)]⟩ 54) :: pt rb (rcO (some ⟨tb, 0, none⟩) none dq dn dc) :: pt tb (.cells ⟨[.int .i64 r.ty]⟩ 2) :: (X ++ (sl WR.cells 38 6 (some ⟨r0, o0, none⟩) n c rs :: m))) := by
        refine ⟨SatP.perm ?_ S.out⟩
        have p1 : (X ++ (pt rb (rcO (some ⟨tb, 0, none⟩) none dq dn dc) :: pt tb (.cells ⟨[.int .i64 r.ty]⟩ 2) :: pt r1 (.cells ⟨[.pointer (some ⟨eb, 0, none⟩)]⟩ 54) :: sl WR.cells 38 6 (some ⟨r0, o0, none⟩) n c rs :: m)).Perm ([pt rb (rcO (some ⟨tb, 0, none⟩) none dq dn dc), pt tb (.cells ⟨[.int .i64 r.ty]⟩ 2), pt r1 (.cells ⟨[.pointer (some ⟨eb, 0, none⟩)]⟩ 54)] ++ (X ++ (sl WR.cells 38 6 (some ⟨r0, o0, none⟩) n c rs :: m))) := by
          rw [← List.append_assoc]
          exact (List.perm_append_comm (l₁ := X) (l₂ := [pt rb (rcO (some ⟨tb, 0, none⟩) none dq dn dc), pt tb (.cells ⟨[.int .i64 r.ty]⟩ 2), pt r1 (.cells ⟨[.pointer (some ⟨eb, 0, none⟩)]⟩ 54)])).append_right _ |> fun h => by simpa using h
        refine p1.trans ?_
        simp only [List.cons_append, List.nil_append]
        exact ((List.Perm.swap _ _ _).cons _).trans (List.Perm.swap _ _ _)
      have S3 := S'.to (Ent.cons (Ent.drop (Ent.drop Ent.refl)))
      (repeat (first | (refine Step.go ?_; intros) | refine iteB_t (by decide) ?_ | refine iteB_f (by decide) ?_ | (refine Duo.mk (by first | omega | exact rfl | decide) ?_; intros) | (refine Duo.mk (Clo.mk (by kernel_rfl)) ?_; intros)))
      have P : EncS H eb pg (logB s (rs.take i)) (lastS s (rs.take i)) (pt rb (rcO (some ⟨tb, 0, none⟩) none dq dn dc) :: pt tb (.cells ⟨[.int .i64 r.ty]⟩ 2) :: (X ++ (pt r1 (.cells ⟨[.pointer (some ⟨eb, 0, none⟩)]⟩ 54) :: sl WR.cells 38 6 (some ⟨r0, o0, none⟩) n c rs :: l))) := by
        have := back H ([pt rb (rcO (some ⟨tb, 0, none⟩) none dq dn dc), pt tb (.cells ⟨[.int .i64 r.ty]⟩ 2)] ++ (X ++ [pt r1 (.cells ⟨[.pointer (some ⟨eb, 0, none⟩)]⟩ 54), sl WR.cells 38 6 (some ⟨r0, o0, none⟩) n c rs])) ⟨by
          refine SatP.perm ?_ S'.out
          simp only [List.cons_append, List.nil_append, List.append_assoc]
          refine (List.Perm.swap _ _ _).trans (List.Perm.cons _ ?_)
          refine (List.Perm.swap _ _ _).trans (List.Perm.cons _ ?_)
          exact List.perm_middle.symm⟩
        simpa using this
      have hdl := dat_len g
      refine call_of (encode_ok (by omega) (by omega) (D.ent fun p xs h => ?_) P) ?_
      · intro k x
        exact h k (star_in x |> fun ⟨h1, h2, h3, _⟩ => h2.mono h3)
      rintro e H1 ⟨rfl, P1⟩
      clear S' S3
      (repeat (first | (refine Step.go ?_; intros) | refine iteB_t (by decide) ?_ | refine iteB_f (by decide) ?_ | (refine Duo.mk (by first | omega | exact rfl | decide) ?_; intros) | (refine Duo.mk (Clo.mk (by kernel_rfl)) ?_; intros)))
      refine F9.L3_step ?_
      unfold F9.L3n
      have e3 : IntKind.wrap .i64 ((i : Int) + (1 : Int)) = ((i + 1 : Nat) : Int) := by rw [wr64 (by omega) (by omega)]; rfl
      rw [e3]
      have et : rs.take (i + 1) = rs.take i ++ [r] := by rw [List.take_add_one, hr]; rfl
      refine ih (i + 1) H1 (by omega) ?_
      rw [et, logB_snoc, lastS_snoc]
      obtain ⟨m3, S5, back3, _⟩ := P1.take (l1 := X) (l := pt r1 (.cells ⟨[.pointer (some ⟨eb, 0, none⟩)]⟩ 54) :: sl WR.cells 38 6 (some ⟨r0, o0, none⟩) n c rs :: l)
      exact back3 H1 [] ⟨by
        obtain ⟨h1, h2, h3, h4⟩ := star_in S5.out
        exact h4.mono PH.minus_sub⟩
    refine S4.idx (f := WR.cells) (E := 38) (z := 6) (xs := rs) ⟨by omega, by omega, fun r2 o2 hr2 => ?_⟩
    cases hr2
    (repeat (first | (refine Step.go ?_; intros) | refine iteB_t (by decide) ?_ | refine iteB_f (by decide) ?_ | (refine Duo.mk (by first | omega | exact rfl | decide) ?_; intros) | (refine Duo.mk (Clo.mk (by kernel_rfl)) ?_; intros)))
    cases hD : r.hasD with
    | false =>
      refine iteB_f rfl ?_
      refine last H4 none 0 0 [] ?_ ?_
      · unfold dat; rw [hD]; exact ⟨rfl, rfl⟩
      · simp only [List.nil_append]
        refine S4.to ?_
        iterate 4 (apply Ent.pick; (focus (repeat (first | exact Sel.here | apply Sel.there))))
        exact Ent.refl
    | true =>
      refine iteB_t rfl ?_
      have hsz := g.2.1
      (repeat (first | (refine Step.go ?_; intros) | refine iteB_t (by decide) ?_ | refine iteB_f (by decide) ?_ | (refine Duo.mk (by first | omega | exact rfl | decide) ?_; intros) | (refine Duo.mk (Clo.mk (by kernel_rfl)) ?_; intros)))
      rename_i dB dc H5 hdc S5 H6 S6
      clear S4 S5
      refine last H6 (some ⟨dB, 0, none⟩) r.data.size dc [pt dB (.cells ⟨bytesOf r.data.data.toList ++ List.replicate (dc - r.data.size) (.int .u8 0)⟩ 5 (dc, dc + 1))] ?_ ?_
      · unfold dat; rw [hD]; exact ⟨by simp, rfl, some_bytes⟩
      · simp only [List.nil_append, List.cons_append]
        refine S6.to ?_
        iterate 5 (apply Ent.pick; (focus (repeat (first | exact Sel.here | apply Sel.there))))
        exact Ent.refl
theorem walwrite_ok {s : W32} {rs : List WR} {q : Option Addr} {n c : Nat} {off : Int} (hn2 : n ≤ 100) (ho : 0 ≤ off ∧ off ≤ 1048576) (hg : ∀ r ∈ rs, GoodR r) (S : Sat H (sl WR.cells 38 6 q n c rs :: l)) :
    CallsH Tryd.prog 9 ⟨[.int .u32 (iv s), .int .i64 off, .slice q n c]⟩ H (outW s rs q n c l) := by
  have hn := (S.slLen (List.mem_cons_self ..)).1
  refine F9.calls ?_
  unfold F9.go
  (repeat (first | (refine Step.go ?_; intros) | refine iteB_t (by decide) ?_ | refine iteB_f (by decide) ?_ | (refine Duo.mk (by first | omega | exact rfl | decide) ?_; intros) | (refine Duo.mk (Clo.mk (by kernel_rfl)) ?_; intros)))
  rename_i pg H1 S1
  have e : (if (0 : Int) > off then (0 : Int) else off) = ((off.toNat : Nat) : Int) := by rw [if_neg (by omega)]; omega
  rw [e]
  refine call_of (zznew_ok (by omega) S1) ?_
  rintro e H2 ⟨eb, rfl, P⟩
  obtain ⟨m, S2, back, rd⟩ := P.take (l1 := []) (l := sl WR.cells 38 6 q n c rs :: l)
  simp only [List.nil_append] at S2
  clear S S1
  (repeat (first | (refine Step.go ?_; intros) | refine iteB_t (by decide) ?_ | refine iteB_f (by decide) ?_ | (refine Duo.mk (by first | omega | exact rfl | decide) ?_; intros) | (refine Duo.mk (Clo.mk (by kernel_rfl)) ?_; intros)))
  rename_i r1 H3 S3 H4 S4
  exact ww_loop hn hn2 hg n 0 H4 (by omega) (back H4 [pt r1 (.cells ⟨[.pointer (some ⟨eb, 0, none⟩)]⟩ 54)] S4)
end
end Go.Proofs.YtkejocbhmcphiaaDoor
