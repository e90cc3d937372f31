/- What functions of this seat do, each proved by a walk; no condition. -/
import Derived.Test.YtpankppliidaoaaT38
set_option linter.unusedVariables false
set_option linter.unusedSimpArgs false
namespace Go.Proofs.Ytpankppliidaoaa
open Go Go.Den Go.Proofs
/-! The sum of bytes. -/
def crcBit (n : Int) : Int := if andZ .u32 n 1 == 1 then xorZ .u32 (shrZ .u32 n 1) 2197175160 else shrZ .u32 n 1
def crcBits : Nat → Int → Int
  | 0, n => n
  | k + 1, n => crcBits k (crcBit n)
def crcByte (n b : Int) : Int := crcBits 8 (xorZ .u32 n (IntKind.wrap .u32 b))
def crcUpd (c : Int) (xs : List Int) : Int := xorZ .u32 (IntKind.max .u32) (xs.foldl crcByte (xorZ .u32 (IntKind.max .u32) c))
section
variable {H : Heap} {s b : Option Addr} {bn bc : Nat} {R : Ending → Heap → Prop}
theorem crc_inner (i : Int) : ∀ (d k : Nat) (n : Int), k + d = 8 → F80.L0 s b bn bc (crcBits d n) (IntKind.wrap .i64 (i + (1 : Int))) H R → F80.L1 s b bn bc n i (k : Int) H R := by
  intro d
  induction d with
  | zero =>
    intro k n hk h
    refine F80.L1_step ?_
    unfold F80.L1n
    exact iteB_i (fun hc => by simp at hc; omega) (fun _ => h)
  | succ d ih =>
    intro k n hk h
    refine F80.L1_step ?_
    unfold F80.L1n
    refine iteB_i (fun _ => ?_) (fun hc => by simp at hc; omega)
    have e1 : IntKind.wrap .i64 ((k : Int) + (1 : Int)) = ((k + 1 : Nat) : Int) := by rw [wrap64_small (by omega) (by omega)]; rfl
    have step : F80.L2 s b bn bc (crcBit n) i (k : Int) H R := by
      refine F80.L2_step ?_
      unfold F80.L2n
      rw [e1]
      exact ih (k + 1) (crcBit n) (by omega) h
    unfold crcBit at step
    refine iteB_i (fun hc => ?_) (fun hc => ?_)
    · rw [if_pos hc] at step
      exact ⟨by decide, step⟩
    · rw [if_neg (by rw [hc]; simp)] at step
      exact ⟨by decide, step⟩
end
theorem crc_loop (sb : Nat) (c : Int) (T : TypeId) (p : Option Addr) (pc : Nat) (xs : List Int) (hm : xs.length ≤ 1000000) (H : Heap) (hs : H[sb]? = some (.cells ⟨[.int .u32 c]⟩ T)) (hd : cellsAt H p (u8v xs)) (m0 : Int) :
    ∀ (d i : Nat), i + d = xs.length → F80.L0 (some ⟨sb, 0, none⟩) p xs.length pc ((xs.take i).foldl crcByte m0) (i : Int) H (fun e H1 => e = .returned (.tuple ⟨[.int .i64 xs.length, .nilIface]⟩) ∧ Upd sb (.cells ⟨[.int .u32 (xorZ .u32 (IntKind.max .u32) (xs.foldl crcByte m0))]⟩ T) H H1) := by
  intro d
  induction d with
  | zero =>
    intro i hi
    refine F80.L0_step ?_
    unfold F80.L0n
    refine iteB_i (fun h => by simp at h; omega) (fun _ => ?_)
    rw [List.take_of_length_le (by omega)]
    refine nilD_i ?_
    refine st1_of hs rfl rfl ?_
    intro H1 u
    exact ⟨rfl, u⟩
  | succ d ih =>
    intro i hi
    refine F80.L0_step ?_
    unfold F80.L0n
    refine iteB_i (fun _ => ?_) (fun h => by simp at h; omega)
    have hil : i < xs.length := by omega
    have hx : xs[i]? = some xs[i] := List.getElem?_eq_getElem hil
    obtain ⟨a, rfl, hc⟩ := hd i (.int .u8 xs[i]) (by simp [u8v, hx])
    refine idxD_i (by omega) (by omega) ?_
    refine ⟨xs[i], by simpa using hc, ?_⟩
    refine crc_inner (i : Int) 8 0 _ rfl ?_
    have e1 : IntKind.wrap .i64 ((i : Int) + (1 : Int)) = ((i + 1 : Nat) : Int) := by rw [wrap64_small (by omega) (by omega)]; rfl
    rw [e1]
    have := ih (i + 1) (by omega)
    rw [take_succ_of hx, List.foldl_append] at this
    exact this
theorem crc_ok (sb : Nat) (c : Int) (T : TypeId) (p : Option Addr) (pc : Nat) (xs : List Int) (hm : xs.length ≤ 1000000) (H : Heap) (hs : H[sb]? = some (.cells ⟨[.int .u32 c]⟩ T)) (hd : cellsAt H p (u8v xs)) :
    CallsH Try.prog 80 ⟨[.pointer (some ⟨sb, 0, none⟩), .slice p xs.length pc]⟩ H (fun e H1 => e = .returned (.tuple ⟨[.int .i64 xs.length, .nilIface]⟩) ∧ Upd sb (.cells ⟨[.int .u32 (crcUpd c xs)]⟩ T) H H1) := by
  refine F80.calls ?_
  unfold F80.go
  refine nilD_i ?_
  refine ⟨_, hcell_of hs rfl, ?_⟩
  exact crc_loop sb c T p pc xs hm H hs hd _ xs.length 0 (by omega)
end Go.Proofs.Ytpankppliidaoaa
