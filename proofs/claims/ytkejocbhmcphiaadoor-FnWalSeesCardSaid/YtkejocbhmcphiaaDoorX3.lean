/- What functions of this seat do, each proved by a walk; no condition. -/
import Derived.Test.YtkejocbhmcphiaaDoorX2
set_option linter.unusedVariables false
set_option linter.unusedSimpArgs false
set_option linter.unnecessarySimpa false
set_option maxRecDepth 100000
namespace Go.Proofs.YtkejocbhmcphiaaDoor
open Go Go.Den Go.Proofs
/-! A sum tells of one changed byte. -/
theorem one_lsb (c : W32) : (c &&& 1#32 = 1#32) ↔ c.getLsbD 0 = true := by
  constructor
  · intro h
    have := congrArg (fun x => BitVec.getLsbD x 0) h
    simpa using this
  · intro h
    apply BitVec.eq_of_getLsbD_eq
    intro i hi
    rw [BitVec.getLsbD_and, BitVec.getLsbD_one]
    by_cases h0 : i = 0
    · subst h0; simp [h]
    · simp [h0]
theorem shr_top (c : W32) : (c >>> 1).getLsbD 31 = false := by
  rw [BitVec.getLsbD_ushiftRight]
  exact BitVec.getLsbD_of_ge c _ (by decide)
theorem crcBit_top (c : W32) : (crcBit c).getLsbD 31 = c.getLsbD 0 := by
  unfold crcBit
  by_cases h : c &&& 1#32 = 1#32
  · rw [if_pos h, (one_lsb c).1 h, BitVec.getLsbD_xor, shr_top]; decide
  · rw [if_neg h, shr_top]
    cases hb : c.getLsbD 0 with
    | false => rfl
    | true => exact absurd ((one_lsb c).2 hb) h
theorem xcan {a b p : W32} (h : a ^^^ p = b ^^^ p) : a = b := by
  have := congrArg (· ^^^ p) h
  simpa [BitVec.xor_assoc] using this
theorem shr_inj {a b : W32} (h0 : a.getLsbD 0 = b.getLsbD 0) (h : a >>> 1 = b >>> 1) : a = b := by
  apply BitVec.eq_of_getLsbD_eq
  intro i hi
  cases i with
  | zero => exact h0
  | succ i =>
    have := congrArg (fun x => BitVec.getLsbD x i) h
    simp only [BitVec.getLsbD_ushiftRight] at this
    rwa [Nat.add_comm] at this
theorem crcBit_inj {a b : W32} (h : crcBit a = crcBit b) : a = b := by
  have ht := congrArg (fun x => BitVec.getLsbD x 31) h
  simp only [crcBit_top] at ht
  refine shr_inj ht ?_
  unfold crcBit at h
  by_cases hb : b &&& 1#32 = 1#32
  · have ha := (one_lsb a).2 (ht.trans ((one_lsb b).1 hb))
    rw [if_pos ha, if_pos hb] at h
    exact xcan h
  · have ha : ¬ a &&& 1#32 = 1#32 := fun ha => hb ((one_lsb b).2 (ht.symm.trans ((one_lsb a).1 ha)))
    rw [if_neg ha, if_neg hb] at h
    exact h
theorem crcBits_inj : ∀ (k : Nat) {a b : W32}, crcBits k a = crcBits k b → a = b
  | 0, _, _, h => h
  | k + 1, _, _, h => crcBit_inj (crcBits_inj k h)
theorem crcByte_st {a b : W32} {x : UInt8} (h : crcByte a x = crcByte b x) : a = b := xcan (crcBits_inj 8 h)
theorem crcByte_by {a : W32} {x y : UInt8} (h : crcByte a x = crcByte a y) : x = y := by
  have h1 := crcBits_inj 8 h
  have h2 : BitVec.ofNat 32 x.toNat = BitVec.ofNat 32 y.toNat := xcan (p := a) (by rw [BitVec.xor_comm _ a, BitVec.xor_comm _ a]; exact h1)
  have h3 := congrArg BitVec.toNat h2
  rw [BitVec.toNat_ofNat, BitVec.toNat_ofNat] at h3
  have hx := x.toNat_lt
  have hy := y.toNat_lt
  exact UInt8.toNat_inj.1 (by omega)
theorem fold_st : ∀ (xs : List UInt8) {a b : W32}, xs.foldl crcByte a = xs.foldl crcByte b → a = b
  | [], _, _, h => h
  | x :: xs, _, _, h => crcByte_st (fold_st xs h)
theorem split_at {α : Type} {xs : List α} {j : Nat} {x : α} (h : xs[j]? = some x) : j < xs.length ∧ xs = xs.take j ++ x :: xs.drop (j + 1) := by
  have hj : j < xs.length := by
    rcases Nat.lt_or_ge j xs.length with h1 | h1
    · exact h1
    · rw [List.getElem?_eq_none h1] at h; cases h
  refine ⟨hj, ?_⟩
  rw [List.getElem?_eq_getElem hj] at h
  cases h
  rw [← List.drop_eq_getElem_cons hj, List.take_append_drop]
theorem crcUpd_set {c : W32} {xs : List UInt8} {j : Nat} {x v : UInt8} (h : xs[j]? = some x) (hv : v ≠ x) : crcUpd c (xs.set j v) ≠ crcUpd c xs := by
  intro he
  obtain ⟨hj, hs⟩ := split_at h
  unfold crcUpd at he
  have h1 : (xs.set j v).foldl crcByte (BitVec.allOnes 32 ^^^ c) = xs.foldl crcByte (BitVec.allOnes 32 ^^^ c) := xcan (p := BitVec.allOnes 32) (by rw [BitVec.xor_comm _ (BitVec.allOnes 32), BitVec.xor_comm _ (BitVec.allOnes 32)]; exact he)
  rw [List.set_eq_take_append_cons_drop, if_pos hj] at h1
  conv at h1 => rhs; rw [hs]
  rw [List.foldl_append, List.foldl_append, List.foldl_cons, List.foldl_cons] at h1
  exact hv (crcByte_by (fold_st _ h1))
/-! A frame with one byte of its data changed. -/
def preB (ty : Int) (c : W32) (n : Nat) : List UInt8 := bt 8 :: (vb (u64n ty) ++ (bt 16 :: (vb c.toNat ++ (bt 26 :: vb n))))
theorem body_pre (ty : Int) (c : W32) (ys : List UInt8) : body ty c (some ys) = preB ty c ys.length ++ ys := by
  simp [body, preB, dpart]
theorem le8_len' (n : Nat) : (le8 n).length = 8 := by have := frameB_len (List.replicate 0 (bt 0)); simp [le8]
theorem frame_set {ty : Int} {c : W32} {ys : List UInt8} {j : Nat} {v : UInt8} (hj : j < ys.length) :
    (frameB (body ty c (some ys))).set (8 + (preB ty c ys.length).length + j) v = frameB (body ty c (some (ys.set j v))) := by
  have hl := le8_len' (lenF (body ty c (some ys)).length)
  have hbl : (body ty c (some (ys.set j v))).length = (body ty c (some ys)).length := by rw [body_pre, body_pre]; simp
  unfold frameB
  rw [hbl, List.set_append_right _ _ (by omega), hl]
  rw [List.set_append_left _ _ (by rw [body_pre, List.length_append]; omega)]
  rw [body_pre, body_pre, List.set_append_right _ _ (by omega), List.length_set]
  rw [show 8 + (preB ty c ys.length).length + j - 8 - (preB ty c ys.length).length = j by omega]
theorem frame_get {ty : Int} {c : W32} {ys : List UInt8} {j : Nat} (hj : j < ys.length) :
    (frameB (body ty c (some ys)))[8 + (preB ty c ys.length).length + j]? = ys[j]? := by
  have hl := le8_len' (lenF (body ty c (some ys)).length)
  unfold frameB
  rw [List.getElem?_append_right (by omega), hl, List.getElem?_append_left (by rw [body_pre, List.length_append]; omega)]
  rw [body_pre, List.getElem?_append_right (by omega)]
  rw [show 8 + (preB ty c ys.length).length + j - 8 - (preB ty c ys.length).length = j by omega]
theorem wru8 {n : Nat} (h : n < 256) : IntKind.wrap .u8 (n : Int) = (n : Int) := by
  show (if (false && decide ((n : Int) % 256 ≥ 128)) = true then (n : Int) % 256 - 256 else (n : Int) % 256) = _
  simp
  omega
theorem xor8 (a : UInt8) {m : Int} (h0 : m ≠ 0) (h1 : 0 ≤ m) (h2 : m < 256) : ∃ v : UInt8, xorZ .u8 (a.toNat : Int) m = (v.toNat : Int) ∧ v ≠ a := by
  obtain ⟨k, rfl⟩ : ∃ k : Nat, m = (k : Int) := ⟨m.toNat, by omega⟩
  have ha := a.toNat_lt
  refine ⟨UInt8.ofNat (BitVec.ofNat 8 a.toNat ^^^ BitVec.ofNat 8 k).toNat, ?_, ?_⟩
  · unfold xorZ
    show IntKind.wrap .u8 (((BitVec.ofInt 8 (a.toNat : Int) ^^^ BitVec.ofInt 8 (k : Int)).toNat : Nat) : Int) = _
    rw [BitVec.ofInt_natCast, BitVec.ofInt_natCast, wru8 (BitVec.isLt _), UInt8.toNat_ofNat']
    rw [Nat.mod_eq_of_lt (BitVec.isLt _)]
  · intro he
    have h3 := congrArg UInt8.toNat he
    rw [UInt8.toNat_ofNat', Nat.mod_eq_of_lt (BitVec.isLt _)] at h3
    have h4 : BitVec.ofNat 8 a.toNat ^^^ BitVec.ofNat 8 k = BitVec.ofNat 8 a.toNat := BitVec.eq_of_toNat_eq (by rw [h3, BitVec.toNat_ofNat, Nat.mod_eq_of_lt (by omega)])
    have h5 := congrArg (BitVec.ofNat 8 a.toNat ^^^ ·) h4
    rw [← BitVec.xor_assoc, BitVec.xor_self, BitVec.zero_xor] at h5
    have h6 := congrArg BitVec.toNat h5
    rw [BitVec.toNat_ofNat] at h6
    have : k = 0 := by
      have h7 : (0#8 : BitVec 8).toNat = 0 := rfl
      rw [h7] at h6
      omega
    omega
/-! One cell of a block that may be frozen behind. -/
theorem Sat.setFr {H : Heap} {l : List HP} {r x a b : Nat} {cs : List Value} {E : TypeId} {u v : Value} {K : Heap → Prop} (S : Sat H (pt r (.cells ⟨cs⟩ E (a, b)) :: l)) (hx : cs[x]? = some u) (hv : isCell v = true) (hc : x < a)
    (k : ∀ H1, Sat H1 (pt r (.cells ⟨cs.set x v⟩ E (a, b)) :: l) → K H1) : st1 H ⟨r, x, none⟩ v K := by
  have h := S.at_ (List.mem_cons_self ..)
  refine ⟨hv, ⟨u, hcell_of h hx⟩, ?_, k _ (S.upd (Upd.hset h))⟩
  unfold hfrozen
  rw [h]
  simp
  omega
theorem bytesOf_set (xs : List UInt8) (x : Nat) (v : UInt8) (rest : List Value) (h : x < xs.length) : (bytesOf xs ++ rest).set x (.int .u8 (v.toNat : Int)) = bytesOf (xs.set x v) ++ rest := by
  unfold bytesOf
  rw [List.set_append_left _ _ (by simpa using h), List.map_set]
end Go.Proofs.YtkejocbhmcphiaaDoor
