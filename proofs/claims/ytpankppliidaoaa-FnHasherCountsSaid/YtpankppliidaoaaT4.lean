/- What functions of this seat do, each proved by a walk; no condition. -/
import Derived.Test.YtpankppliidaoaaT3
set_option linter.unusedVariables false
namespace Go.Proofs.Ytpankppliidaoaa
open Go Go.Den Go.Proofs

/-- The byte of a number at place k, as the code makes it. -/
def bexp (n : Int) (k : Nat) : Int := IntKind.wrap .u8 (shrZ .u64 n (IntKind.wrap .u64 ((8 : Int) * (IntKind.wrap .u64 (IntKind.wrap .i64 ((7 : Int) - (k : Int)))))))
def be (n : Int) : List Value := (List.range 8).map fun k => .int .u8 (bexp n k)
theorem be_length (n : Int) : (be n).length = 8 := by simp [be]
theorem wrap64_small {i : Int} (h0 : -9223372036854775808 ≤ i) (h1 : i < 9223372036854775808) : IntKind.wrap .i64 i = i := by
  show (if (true && decide (i % 18446744073709551616 ≥ 9223372036854775808)) = true then i % 18446744073709551616 - 18446744073709551616 else i % 18446744073709551616) = i
  split
  · rename_i h; simp at h; omega
  · rename_i h; simp at h; omega
theorem wrapu64_nonneg (i : Int) : 0 ≤ IntKind.wrap .u64 i := by
  show 0 ≤ (if (false && decide (i % 18446744073709551616 ≥ 9223372036854775808)) = true then i % 18446744073709551616 - 18446744073709551616 else i % 18446744073709551616)
  simp; omega
theorem put_step (cs : List Value) (off k : Nat) (B : List Value) (hB : k < B.length) (hc : off + B.length ≤ cs.length) :
    (cs.take off ++ B.take k ++ cs.drop (off + k)).set (off + k) B[k] = cs.take off ++ B.take (k + 1) ++ cs.drop (off + (k + 1)) := by
  have h1 : (cs.take off ++ B.take k).length = off + k := by simp; omega
  rw [List.set_append_right _ _ (by omega), h1, Nat.sub_self]
  have h2 : B.take (k + 1) = B.take k ++ [B[k]] := List.take_succ_eq_append_getElem hB
  rw [List.drop_eq_getElem_cons (show off + k < cs.length by omega), List.set_cons_zero, h2]
  simp only [List.append_assoc, List.cons_append, List.nil_append, Nat.add_assoc]
theorem putUint64_loop (n : Int) (r off : Nat) (bn bc : Nat) (cs : List Value) (T : TypeId) (hn : 8 ≤ bn) (hc : off + 8 ≤ cs.length) (R : Ending → Heap → Prop) : ∀ (d k : Nat) (H : Heap), k + d = 8 →
    H[r]? = some (.cells ⟨cs.take off ++ (be n).take k ++ cs.drop (off + k)⟩ T) → (∀ H1, Upd r (.cells ⟨cs.take off ++ be n ++ cs.drop (off + 8)⟩ T) H H1 → R (.returned (.tuple ⟨[]⟩)) H1) → F63.L0 (some ⟨r, off, none⟩) bn bc n (k : Int) H R := by
  intro d
  induction d with
  | zero =>
    intro k H hk hH hR
    obtain rfl : k = 8 := by omega
    refine F63.L0_step ?_
    unfold F63.L0n
    refine iteB_i (fun h => by simp at h) (fun _ => ?_)
    refine hR H (Upd.refl ?_)
    have h8 : (be n).take 8 = be n := List.take_of_length_le (by rw [be_length]; omega)
    rw [hH, h8]
  | succ d ih =>
    intro k H hk hH hR
    refine F63.L0_step ?_
    unfold F63.L0n
    refine iteB_i (fun _ => ?_) (fun h => by simp at h; omega)
    refine ⟨wrapu64_nonneg _, ?_⟩
    refine idxD_i (by omega) (by omega) ?_
    simp only [add_mk, Int.toNat_natCast, Nat.mul_one]
    have hlen : (be n).length = 8 := be_length n
    refine st1_of (j := off + k) hH (u := cs[off + k]'(by omega)) ?_ rfl ?_
    · rw [List.getElem?_append_right (by simp; omega)]
      have : (cs.take off ++ (be n).take k).length = off + k := by simp; omega
      rw [this, Nat.sub_self, List.drop_eq_getElem_cons (show off + k < cs.length by omega)]
      rfl
    intro H1 u
    have e : IntKind.wrap .i64 ((k : Int) + 1) = ((k + 1 : Nat) : Int) := by rw [wrap64_small (by omega) (by omega)]; rfl
    rw [e]
    have hs := put_step cs off k (be n) (by omega) (by omega)
    have hb : (be n)[k]'(by omega) = .int .u8 (bexp n k) := by simp [be]
    rw [hb] at hs
    unfold bexp at hs
    refine ih (k + 1) H1 (by omega) ?_ ?_
    · rw [u.at_, hs]
    · intro H2 u2
      exact hR H2 (u.trans u2)
theorem putUint64_ok (n : Int) (r off : Nat) (bn bc : Nat) (cs : List Value) (T : TypeId) (hn : 8 ≤ bn) (hc : off + 8 ≤ cs.length) (H : Heap) (hH : H[r]? = some (.cells ⟨cs⟩ T)) :
    CallsH Try.prog 63 ⟨[.slice (some ⟨r, off, none⟩) bn bc, .int .u64 n]⟩ H (fun e H1 => e = .returned (.tuple ⟨[]⟩) ∧ Upd r (.cells ⟨cs.take off ++ be n ++ cs.drop (off + 8)⟩ T) H H1) := by
  refine F63.calls ?_
  unfold F63.go
  refine putUint64_loop n r off bn bc cs T hn hc _ 8 0 H rfl ?_ (fun H1 u => ⟨rfl, u⟩)
  rw [hH]
  simp
/-- What eight bytes say. -/
def dec (xs : List Int) : Int := xs.foldl (fun n b => orZ .u64 (shlZ .u64 n (8 : Int)) (IntKind.wrap .u64 b)) 0
def u8s (xs : List Int) : List Value := xs.map fun x => .int .u8 x
theorem uint64_loop (r off : Nat) (bn bc : Nat) (xs : List Int) (hx : xs.length = 8) (hn : 8 ≤ bn) (H : Heap) (R : Ending → Heap → Prop) (hH : ∀ k, k < 8 → hcell H ⟨r, off + k, none⟩ = some (.int .u8 (xs.getD k 0)))
    (hR : R (.returned (.int .u64 (dec xs))) H) : ∀ (d k : Nat) (v : Int), k + d = 8 → v = dec (xs.take k) → F77.L0 (some ⟨r, off, none⟩) bn bc v (k : Int) H R := by
  intro d
  induction d with
  | zero =>
    intro k v hk hv
    obtain rfl : k = 8 := by omega
    refine F77.L0_step ?_
    unfold F77.L0n
    refine iteB_i (fun h => by simp at h) (fun _ => ?_)
    rw [hv, List.take_of_length_le (by omega)]
    exact hR
  | succ d ih =>
    intro k v hk hv
    refine F77.L0_step ?_
    unfold F77.L0n
    refine iteB_i (fun _ => ?_) (fun h => by simp at h; omega)
    refine ⟨by omega, ?_⟩
    refine idxD_i (by omega) (by omega) ?_
    simp only [add_mk, Int.toNat_natCast, Nat.mul_one]
    refine ⟨_, hH k (by omega), ?_⟩
    have e : IntKind.wrap .i64 ((k : Int) + 1) = ((k + 1 : Nat) : Int) := by rw [wrap64_small (by omega) (by omega)]; rfl
    rw [e]
    refine ih (k + 1) _ (by omega) ?_
    rw [hv]
    have hk8 : k < xs.length := by omega
    rw [List.take_succ_eq_append_getElem hk8]
    unfold dec
    rw [List.foldl_append]
    simp [List.getD_eq_getElem?_getD, hk8]
theorem uint64_ok (r off : Nat) (bn bc : Nat) (xs : List Int) (hx : xs.length = 8) (hn : 8 ≤ bn) (H : Heap) (hH : ∀ k, k < 8 → hcell H ⟨r, off + k, none⟩ = some (.int .u8 (xs.getD k 0))) :
    CallsH Try.prog 77 ⟨[.slice (some ⟨r, off, none⟩) bn bc]⟩ H (fun e H1 => e = .returned (.int .u64 (dec xs)) ∧ H1 = H) := by
  refine F77.calls ?_
  unfold F77.go
  exact uint64_loop r off bn bc xs hx hn H _ hH ⟨rfl, rfl⟩ 8 0 0 rfl rfl
end Go.Proofs.Ytpankppliidaoaa
