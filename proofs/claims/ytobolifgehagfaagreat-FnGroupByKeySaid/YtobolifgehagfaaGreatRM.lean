/- What functions of this seat do, each proved by a walk; no condition. -/
import Derived.Test.YtobolifgehagfaaGreatRB
import Derived.KernelRfl
set_option linter.unusedVariables false
namespace Go.Proofs.YtobolifgehagfaaGreat
open Go Go.Den Go.Proofs
/-! ### 70 "slices.heapSortOrdered[int64]" -/
namespace F70
def an : Ann := { kinds := [], taus := [(10, [[0, 1, 2, 3, 4, 5, 6, 7, 8, 9, 10, 12, 13, 14, 11, 15, 16, 17, 18, 19]])], pairs := [], lab := [(40000005, [0, 6, 7, 8, 9]), (30000009, [0, 6, 7, 10])] }
noncomputable def body : Code := (Tryz.f70.body).getD .skip
theorem fn : Tryz.prog.funcs[70]? = some Tryz.f70 := by kernel_rfl
theorem ok : codeOk an 56 body = true := by kernel_rfl
noncomputable def L0t : List Item := [.code (sub [1, 1, 1, 0, 1, 0, 0] body), .inLoop (sub [1, 1, 1, 0, 1, 0, 0] body), .inBlock 0, .code (sub [1, 1, 1, 1] body)]
def L0 (data : Option Addr) (datan : Nat) (datac : Nat) (first : Int) (lo : Int) (hi : Int) (i : Int) (H : Heap) (R : Ending → Heap → Prop) : Prop :=
  GoL Tryz.prog 70 56 L0t [0, 6, 7, 8, 9] [(.slice data datan datac), (.int .i64 first), (.int .i64 lo), (.int .i64 hi), (.int .i64 i)] H R
noncomputable def L1t : List Item := [.code (sub [1, 1, 1, 1, 1, 0, 0] body), .inLoop (sub [1, 1, 1, 1, 1, 0, 0] body), .inBlock 2]
def L1 (data : Option Addr) (datan : Nat) (datac : Nat) (first : Int) (lo : Int) (i : Int) (H : Heap) (R : Ending → Heap → Prop) : Prop :=
  GoL Tryz.prog 70 56 L1t [0, 6, 7, 10] [(.slice data datan datac), (.int .i64 first), (.int .i64 lo), (.int .i64 i)] H R
def L0n (data : Option Addr) (datan : Nat) (datac : Nat) (first : Int) (lo : Int) (hi : Int) (i : Int) (H : Heap) (R : Ending → Heap → Prop) : Prop :=
  iteB (decide (i ≥ (0 : Int))) (
    callD Tryz.prog 90 [(.slice data datan datac), (.int .i64 i), (.int .i64 hi), (.int .i64 first)] H (panK R) fun v H1 =>
    tTup v fun l =>
    tNil l <|
    L0 data datan datac first lo hi (IntKind.wrap .i64 (i - (1 : Int))) H1 R) <|
  L1 data datan datac first lo (IntKind.wrap .i64 (hi - (1 : Int))) H R
theorem L0_step {data : Option Addr} {datan : Nat} {datac : Nat} {first : Int} {lo : Int} {hi : Int} {i : Int} {H : Heap} {R : Ending → Heap → Prop} (h : L0n data datan datac first lo hi i H R) : L0 data datan datac first lo hi i H R :=
  goL_of_den (an := an) (fuel := 100000) (X := L0n data datan datac first lo hi i H R) mixed fn (by kernel_rfl) (fun ρ0 => by kernel_rfl) h
def L1n (data : Option Addr) (datan : Nat) (datac : Nat) (first : Int) (lo : Int) (i : Int) (H : Heap) (R : Ending → Heap → Prop) : Prop :=
  iteB (decide (i ≥ (0 : Int))) (
    idxD data datan (IntKind.wrap .i64 (first + i)) fun a =>
    idxD data datan first fun a1 =>
    ldInt H (Addr.add a (Int.toNat (IntKind.wrap .i64 (first + i)) * 1)) .i64 fun n =>
    ldInt H (Addr.add a1 (Int.toNat first * 1)) .i64 fun n1 =>
    idxD data datan first fun a2 =>
    st1 H (Addr.add a2 (Int.toNat first * 1)) (.int .i64 n) fun H1 =>
    idxD data datan (IntKind.wrap .i64 (first + i)) fun a3 =>
    st1 H1 (Addr.add a3 (Int.toNat (IntKind.wrap .i64 (first + i)) * 1)) (.int .i64 n1) fun H2 =>
    callD Tryz.prog 90 [(.slice data datan datac), (.int .i64 lo), (.int .i64 i), (.int .i64 first)] H2 (panK R) fun v H3 =>
    tTup v fun l =>
    tNil l <|
    L1 data datan datac first lo (IntKind.wrap .i64 (i - (1 : Int))) H3 R) <|
  R (.returned (.tuple ⟨[]⟩)) H
theorem L1_step {data : Option Addr} {datan : Nat} {datac : Nat} {first : Int} {lo : Int} {i : Int} {H : Heap} {R : Ending → Heap → Prop} (h : L1n data datan datac first lo i H R) : L1 data datan datac first lo i H R :=
  goL_of_den (an := an) (fuel := 100000) (X := L1n data datan datac first lo i H R) mixed fn (by kernel_rfl) (fun ρ0 => by kernel_rfl) h
def go (data : Option Addr) (datan : Nat) (datac : Nat) (a : Int) (b : Int) (H : Heap) (R : Ending → Heap → Prop) : Prop :=
  divD (2 : Int) <|
  L0 data datan datac a (0 : Int) (IntKind.wrap .i64 (b - a)) (IntKind.wrap .i64 (Int.tdiv (IntKind.wrap .i64 ((IntKind.wrap .i64 (b - a)) - (1 : Int))) (2 : Int))) H R
theorem calls {data : Option Addr} {datan : Nat} {datac : Nat} {a : Int} {b : Int} {H : Heap} {R : Ending → Heap → Prop} (h : go data datan datac a b H R) : CallsH Tryz.prog 70 ⟨[(.slice data datan datac), (.int .i64 a), (.int .i64 b)]⟩ H R :=
  callsH_of_den (an := an) (fuel := 100000) (X := go data datan datac a b H R) (c := body) mixed fn (by kernel_rfl) (by kernel_rfl) (by kernel_rfl) ok (by kernel_rfl) h
end F70
/-! ### 71 "slices.breakPatternsOrdered[int64]" -/
namespace F71
def an : Ann := { kinds := [], taus := [(10, [[0, 1, 2, 3, 4, 5, 6, 7, 8, 9, 10, 12, 13, 14, 11, 15, 16, 17, 18, 19]])], pairs := [], lab := [(30000006, [0, 1, 6, 7, 8, 9]), (50000011, [0, 1, 6, 7, 8, 9, 10])] }
noncomputable def body : Code := (Tryz.f71.body).getD .skip
theorem fn : Tryz.prog.funcs[71]? = some Tryz.f71 := by kernel_rfl
theorem ok : codeOk an 65 body = true := by kernel_rfl
noncomputable def L0t : List Item := [.code (sub [1, 1, 0, 1, 1, 1, 0, 0] body), .inLoop (sub [1, 1, 0, 1, 1, 1, 0, 0] body), .inBlock 0]
def L0 (s0 : Option Addr) (s0n : Nat) (s0c : Nat) (s1 : Int) (s6 : Int) (s7 : Nat) (s8 : Int) (s9 : Int) (H : Heap) (R : Ending → Heap → Prop) : Prop :=
  GoL Tryz.prog 71 65 L0t [0, 1, 6, 7, 8, 9] [(.slice s0 s0n s0c), (.int .i64 s1), (.int .i64 s6), (.pointer (some ⟨s7, 0, none⟩)), (.int .u64 s8), (.int .i64 s9)] H R
noncomputable def L1t : List Item := [.code (sub [1, 1, 0, 1, 1, 1, 0, 0, 1, 0, 0, 1, 1] body), .inBlock 1, .code (sub [1, 1, 0, 1, 1, 1, 0, 0, 1, 1] body), .inLoop (sub [1, 1, 0, 1, 1, 1, 0, 0] body), .inBlock 0]
def L1 (s0 : Option Addr) (s0n : Nat) (s0c : Nat) (s1 : Int) (s6 : Int) (s7 : Nat) (s8 : Int) (s9 : Int) (s10 : Int) (H : Heap) (R : Ending → Heap → Prop) : Prop :=
  GoL Tryz.prog 71 65 L1t [0, 1, 6, 7, 8, 9, 10] [(.slice s0 s0n s0c), (.int .i64 s1), (.int .i64 s6), (.pointer (some ⟨s7, 0, none⟩)), (.int .u64 s8), (.int .i64 s9), (.int .i64 s10)] H R
def L0n (s0 : Option Addr) (s0n : Nat) (s0c : Nat) (s1 : Int) (s6 : Int) (s7 : Nat) (s8 : Int) (s9 : Int) (H : Heap) (R : Ending → Heap → Prop) : Prop :=
  divD (4 : Int) <|
  iteB (decide (s9 ≤ (IntKind.wrap .i64 ((IntKind.wrap .i64 (s1 + (IntKind.wrap .i64 ((IntKind.wrap .i64 (Int.tdiv s6 (4 : Int))) * (2 : Int))))) + (1 : Int))))) (
    callD Tryz.prog 92 [(.pointer (some ⟨s7, 0, none⟩))] H (panK R) fun v H1 =>
    tInt v .u64 fun n =>
    iteB (decide ((IntKind.wrap .i64 (andZ .u64 n (IntKind.wrap .u64 (s8 - (1 : Int))))) ≥ s6)) (
      L1 s0 s0n s0c s1 s6 s7 s8 s9 (IntKind.wrap .i64 ((IntKind.wrap .i64 (andZ .u64 n (IntKind.wrap .u64 (s8 - (1 : Int))))) - s6)) H1 R) <|
    L1 s0 s0n s0c s1 s6 s7 s8 s9 (IntKind.wrap .i64 (andZ .u64 n (IntKind.wrap .u64 (s8 - (1 : Int))))) H1 R) <|
  R (.returned (.tuple ⟨[]⟩)) H
theorem L0_step {s0 : Option Addr} {s0n : Nat} {s0c : Nat} {s1 : Int} {s6 : Int} {s7 : Nat} {s8 : Int} {s9 : Int} {H : Heap} {R : Ending → Heap → Prop} (h : L0n s0 s0n s0c s1 s6 s7 s8 s9 H R) : L0 s0 s0n s0c s1 s6 s7 s8 s9 H R :=
  goL_of_den (an := an) (fuel := 100000) (X := L0n s0 s0n s0c s1 s6 s7 s8 s9 H R) mixed fn (by kernel_rfl) (fun ρ0 => by kernel_rfl) h
def L1n (s0 : Option Addr) (s0n : Nat) (s0c : Nat) (s1 : Int) (s6 : Int) (s7 : Nat) (s8 : Int) (s9 : Int) (s10 : Int) (H : Heap) (R : Ending → Heap → Prop) : Prop :=
  idxD s0 s0n (IntKind.wrap .i64 (s1 + s10)) fun a =>
  idxD s0 s0n s9 fun a1 =>
  ldInt H (Addr.add a (Int.toNat (IntKind.wrap .i64 (s1 + s10)) * 1)) .i64 fun n =>
  ldInt H (Addr.add a1 (Int.toNat s9 * 1)) .i64 fun n1 =>
  idxD s0 s0n s9 fun a2 =>
  st1 H (Addr.add a2 (Int.toNat s9 * 1)) (.int .i64 n) fun H1 =>
  idxD s0 s0n (IntKind.wrap .i64 (s1 + s10)) fun a3 =>
  st1 H1 (Addr.add a3 (Int.toNat (IntKind.wrap .i64 (s1 + s10)) * 1)) (.int .i64 n1) fun H2 =>
  L0 s0 s0n s0c s1 s6 s7 s8 (IntKind.wrap .i64 (s9 + (1 : Int))) H2 R
theorem L1_step {s0 : Option Addr} {s0n : Nat} {s0c : Nat} {s1 : Int} {s6 : Int} {s7 : Nat} {s8 : Int} {s9 : Int} {s10 : Int} {H : Heap} {R : Ending → Heap → Prop} (h : L1n s0 s0n s0c s1 s6 s7 s8 s9 s10 H R) : L1 s0 s0n s0c s1 s6 s7 s8 s9 s10 H R :=
  goL_of_den (an := an) (fuel := 100000) (X := L1n s0 s0n s0c s1 s6 s7 s8 s9 s10 H R) mixed fn (by kernel_rfl) (fun ρ0 => by kernel_rfl) h
def go (s0 : Option Addr) (s0n : Nat) (s0c : Nat) (s1 : Int) (s2 : Int) (H : Heap) (R : Ending → Heap → Prop) : Prop :=
  iteB (decide ((IntKind.wrap .i64 (s2 - s1)) ≥ (8 : Int))) (
    newD H (.cells ⟨[(.int .u64 (0 : Int))]⟩ 182) fun r H1 =>
    st1 H1 ⟨r, 0, none⟩ (.int .u64 (IntKind.wrap .u64 (IntKind.wrap .i64 (s2 - s1)))) fun H2 =>
    callD Tryz.prog 91 [(.int .i64 (IntKind.wrap .i64 (s2 - s1)))] H2 (panK R) fun v H3 =>
    tInt v .u64 fun n =>
    divD (4 : Int) <|
    L0 s0 s0n s0c s1 (IntKind.wrap .i64 (s2 - s1)) r n (IntKind.wrap .i64 ((IntKind.wrap .i64 (s1 + (IntKind.wrap .i64 ((IntKind.wrap .i64 (Int.tdiv (IntKind.wrap .i64 (s2 - s1)) (4 : Int))) * (2 : Int))))) - (1 : Int))) H3 R) <|
  R (.returned (.tuple ⟨[]⟩)) H
theorem calls {s0 : Option Addr} {s0n : Nat} {s0c : Nat} {s1 : Int} {s2 : Int} {H : Heap} {R : Ending → Heap → Prop} (h : go s0 s0n s0c s1 s2 H R) : CallsH Tryz.prog 71 ⟨[(.slice s0 s0n s0c), (.int .i64 s1), (.int .i64 s2)]⟩ H R :=
  callsH_of_den (an := an) (fuel := 100000) (X := go s0 s0n s0c s1 s2 H R) (c := body) mixed fn (by kernel_rfl) (by kernel_rfl) (by kernel_rfl) ok (by kernel_rfl) h
end F71
/-! ### 72 "slices.choosePivotOrdered[int64]" -/
namespace F72
def an : Ann := { kinds := [], taus := [], pairs := [], lab := [(20000012, [0, 9, 10, 11, 12]), (10000013, [9, 11])] }
noncomputable def body : Code := (Tryz.f72.body).getD .skip
theorem fn : Tryz.prog.funcs[72]? = some Tryz.f72 := by kernel_rfl
theorem ok : codeOk an 57 body = true := by kernel_rfl
noncomputable def L0t : List Item := [.code (sub [1, 1, 1, 1, 1, 1, 0, 1, 0, 1] body), .code (sub [1, 1, 1, 1, 1, 1, 1] body)]
def L0 (data : Option Addr) (datan : Nat) (datac : Nat) (swaps : Nat) (i : Int) (j : Int) (k : Int) (H : Heap) (R : Ending → Heap → Prop) : Prop :=
  GoL Tryz.prog 72 57 L0t [0, 9, 10, 11, 12] [(.slice data datan datac), (.pointer (some ⟨swaps, 0, none⟩)), (.int .i64 i), (.int .i64 j), (.int .i64 k)] H R
noncomputable def L1t : List Item := [.code (sub [1, 1, 1, 1, 1, 1, 1] body)]
def L1 (swaps : Nat) (j : Int) (H : Heap) (R : Ending → Heap → Prop) : Prop :=
  GoL Tryz.prog 72 57 L1t [9, 11] [(.pointer (some ⟨swaps, 0, none⟩)), (.int .i64 j)] H R
def L0n (data : Option Addr) (datan : Nat) (datac : Nat) (swaps : Nat) (i : Int) (j : Int) (k : Int) (H : Heap) (R : Ending → Heap → Prop) : Prop :=
  callD Tryz.prog 94 [(.slice data datan datac), (.int .i64 i), (.int .i64 j), (.int .i64 k), (.pointer (some ⟨swaps, 0, none⟩))] H (panK R) fun v H1 =>
  tInt v .i64 fun n =>
  L1 swaps n H1 R
theorem L0_step {data : Option Addr} {datan : Nat} {datac : Nat} {swaps : Nat} {i : Int} {j : Int} {k : Int} {H : Heap} {R : Ending → Heap → Prop} (h : L0n data datan datac swaps i j k H R) : L0 data datan datac swaps i j k H R :=
  goL_of_den (an := an) (fuel := 100000) (X := L0n data datan datac swaps i j k H R) mixed fn (by kernel_rfl) (fun ρ0 => by kernel_rfl) h
def L1n (swaps : Nat) (j : Int) (H : Heap) (R : Ending → Heap → Prop) : Prop :=
  ldInt H ⟨swaps, 0, none⟩ .i64 fun n =>
  iteB (n == (0 : Int)) (
    R (.returned (.tuple ⟨[(.int .i64 j), (.int .i64 (1 : Int))]⟩)) H) <|
  iteB (n == (12 : Int)) (
    R (.returned (.tuple ⟨[(.int .i64 j), (.int .i64 (2 : Int))]⟩)) H) <|
  R (.returned (.tuple ⟨[(.int .i64 j), (.int .i64 (0 : Int))]⟩)) H
theorem L1_step {swaps : Nat} {j : Int} {H : Heap} {R : Ending → Heap → Prop} (h : L1n swaps j H R) : L1 swaps j H R :=
  goL_of_den (an := an) (fuel := 100000) (X := L1n swaps j H R) mixed fn (by kernel_rfl) (fun ρ0 => by kernel_rfl) h
def go (data : Option Addr) (datan : Nat) (datac : Nat) (a : Int) (b : Int) (H : Heap) (R : Ending → Heap → Prop) : Prop :=
  newD H (.cells ⟨[(.int .i64 (0 : Int))]⟩ 3) fun r H1 =>
  divD (4 : Int) <|
  divD (4 : Int) <|
  divD (4 : Int) <|
  iteB (decide ((IntKind.wrap .i64 (b - a)) ≥ (8 : Int))) (
    iteB (decide ((IntKind.wrap .i64 (b - a)) ≥ (50 : Int))) (
      callD Tryz.prog 93 [(.slice data datan datac), (.int .i64 (IntKind.wrap .i64 (a + (IntKind.wrap .i64 ((IntKind.wrap .i64 (Int.tdiv (IntKind.wrap .i64 (b - a)) (4 : Int))) * (1 : Int)))))), (.pointer (some ⟨r, 0, none⟩))] H1 (panK R) fun v H2 =>
      tInt v .i64 fun n =>
      callD Tryz.prog 93 [(.slice data datan datac), (.int .i64 (IntKind.wrap .i64 (a + (IntKind.wrap .i64 ((IntKind.wrap .i64 (Int.tdiv (IntKind.wrap .i64 (b - a)) (4 : Int))) * (2 : Int)))))), (.pointer (some ⟨r, 0, none⟩))] H2 (panK R) fun v1 H3 =>
      tInt v1 .i64 fun n1 =>
      callD Tryz.prog 93 [(.slice data datan datac), (.int .i64 (IntKind.wrap .i64 (a + (IntKind.wrap .i64 ((IntKind.wrap .i64 (Int.tdiv (IntKind.wrap .i64 (b - a)) (4 : Int))) * (3 : Int)))))), (.pointer (some ⟨r, 0, none⟩))] H3 (panK R) fun v2 H4 =>
      tInt v2 .i64 fun n2 =>
      L0 data datan datac r n n1 n2 H4 R) <|
    L0 data datan datac r (IntKind.wrap .i64 (a + (IntKind.wrap .i64 ((IntKind.wrap .i64 (Int.tdiv (IntKind.wrap .i64 (b - a)) (4 : Int))) * (1 : Int))))) (IntKind.wrap .i64 (a + (IntKind.wrap .i64 ((IntKind.wrap .i64 (Int.tdiv (IntKind.wrap .i64 (b - a)) (4 : Int))) * (2 : Int))))) (IntKind.wrap .i64 (a + (IntKind.wrap .i64 ((IntKind.wrap .i64 (Int.tdiv (IntKind.wrap .i64 (b - a)) (4 : Int))) * (3 : Int))))) H1 R) <|
  L1 r (IntKind.wrap .i64 (a + (IntKind.wrap .i64 ((IntKind.wrap .i64 (Int.tdiv (IntKind.wrap .i64 (b - a)) (4 : Int))) * (2 : Int))))) H1 R
theorem calls {data : Option Addr} {datan : Nat} {datac : Nat} {a : Int} {b : Int} {H : Heap} {R : Ending → Heap → Prop} (h : go data datan datac a b H R) : CallsH Tryz.prog 72 ⟨[(.slice data datan datac), (.int .i64 a), (.int .i64 b)]⟩ H R :=
  callsH_of_den (an := an) (fuel := 100000) (X := go data datan datac a b H R) (c := body) mixed fn (by kernel_rfl) (by kernel_rfl) (by kernel_rfl) ok (by kernel_rfl) h
end F72
/-! ### 73 "slices.reverseRangeOrdered[int64]" -/
namespace F73
def an : Ann := { kinds := [], taus := [(3, [[0, 1, 2, 3, 4, 5, 6, 8, 9, 10, 7, 11, 12, 13, 14, 15]])], pairs := [], lab := [(30000003, [0, 6, 7])] }
noncomputable def body : Code := (Tryz.f73.body).getD .skip
theorem fn : Tryz.prog.funcs[73]? = some Tryz.f73 := by kernel_rfl
theorem ok : codeOk an 32 body = true := by kernel_rfl
noncomputable def L0t : List Item := [.code (sub [1, 1, 0, 0] body), .inLoop (sub [1, 1, 0, 0] body), .inBlock 0]
def L0 (data : Option Addr) (datan : Nat) (datac : Nat) (i : Int) (j : Int) (H : Heap) (R : Ending → Heap → Prop) : Prop :=
  GoL Tryz.prog 73 32 L0t [0, 6, 7] [(.slice data datan datac), (.int .i64 i), (.int .i64 j)] H R
def L0n (data : Option Addr) (datan : Nat) (datac : Nat) (i : Int) (j : Int) (H : Heap) (R : Ending → Heap → Prop) : Prop :=
  iteB (decide (i < j)) (
    idxD data datan j fun a =>
    idxD data datan i fun a1 =>
    ldInt H (Addr.add a (Int.toNat j * 1)) .i64 fun n =>
    ldInt H (Addr.add a1 (Int.toNat i * 1)) .i64 fun n1 =>
    idxD data datan i fun a2 =>
    st1 H (Addr.add a2 (Int.toNat i * 1)) (.int .i64 n) fun H1 =>
    idxD data datan j fun a3 =>
    st1 H1 (Addr.add a3 (Int.toNat j * 1)) (.int .i64 n1) fun H2 =>
    L0 data datan datac (IntKind.wrap .i64 (i + (1 : Int))) (IntKind.wrap .i64 (j - (1 : Int))) H2 R) <|
  R (.returned (.tuple ⟨[]⟩)) H
theorem L0_step {data : Option Addr} {datan : Nat} {datac : Nat} {i : Int} {j : Int} {H : Heap} {R : Ending → Heap → Prop} (h : L0n data datan datac i j H R) : L0 data datan datac i j H R :=
  goL_of_den (an := an) (fuel := 100000) (X := L0n data datan datac i j H R) mixed fn (by kernel_rfl) (fun ρ0 => by kernel_rfl) h
def go (data : Option Addr) (datan : Nat) (datac : Nat) (a : Int) (b : Int) (H : Heap) (R : Ending → Heap → Prop) : Prop :=
  L0 data datan datac a (IntKind.wrap .i64 (b - (1 : Int))) H R
theorem calls {data : Option Addr} {datan : Nat} {datac : Nat} {a : Int} {b : Int} {H : Heap} {R : Ending → Heap → Prop} (h : go data datan datac a b H R) : CallsH Tryz.prog 73 ⟨[(.slice data datan datac), (.int .i64 a), (.int .i64 b)]⟩ H R :=
  callsH_of_den (an := an) (fuel := 100000) (X := go data datan datac a b H R) (c := body) mixed fn (by kernel_rfl) (by kernel_rfl) (by kernel_rfl) ok (by kernel_rfl) h
end F73
/-! ### 74 "slices.partialInsertionSortOrdered[int64]" -/
namespace F74
def an : Ann := { kinds := [], taus := [(5, [[0, 1, 2, 3, 4, 5, 6, 8, 9, 10, 11, 7, 12, 13, 14, 15]]), (11, [[0, 1, 2, 3, 4, 5, 6, 7, 8, 10, 11, 12, 9, 13, 14, 15, 16, 17]]), (16, [[0, 1, 2, 4, 5, 6, 7, 3, 8, 9, 10]]), (17, [[0, 1, 2, 3, 4, 5, 6, 7, 8, 10, 11, 12, 9, 13, 14, 15, 16, 17]]), (22, [[0, 1, 2, 4, 5, 6, 7, 3, 8, 9, 10]]), (23, [[0, 1, 2, 3, 4, 5, 6, 7, 8, 10, 11, 12, 9, 13, 14, 15, 16, 17]])], pairs := [], lab := [(40000004, [0, 1, 2, 7, 8]), (90000006, [0, 1, 2, 7, 8]), (60000008, [0, 1, 2, 7, 8]), (90000015, [0, 1, 2, 7, 8, 9]), (60000019, [0, 1, 2, 7, 8]), (80000021, [0, 1, 2, 7, 8, 10]), (40000005, [0, 1, 2, 7, 8]), (90000007, [0, 1, 2, 7, 8])] }
noncomputable def body : Code := (Tryz.f74.body).getD .skip
theorem fn : Tryz.prog.funcs[74]? = some Tryz.f74 := by kernel_rfl
theorem ok : codeOk an 133 body = true := by kernel_rfl
noncomputable def L0t : List Item := [.code (sub [1, 1, 0, 1, 0, 0] body), .inLoop (sub [1, 1, 0, 1, 0, 0] body), .inBlock 0, .code (sub [1, 1, 1] body)]
def L0 (s0 : Option Addr) (s0n : Nat) (s0c : Nat) (s1 : Int) (s2 : Int) (s7 : Int) (s8 : Int) (H : Heap) (R : Ending → Heap → Prop) : Prop :=
  GoL Tryz.prog 74 133 L0t [0, 1, 2, 7, 8] [(.slice s0 s0n s0c), (.int .i64 s1), (.int .i64 s2), (.int .i64 s7), (.int .i64 s8)] H R
noncomputable def L1t : List Item := [.code (sub [1, 1, 0, 1, 0, 0, 1, 0, 0, 0, 0, 0] body), .inLoop (sub [1, 1, 0, 1, 0, 0, 1, 0, 0, 0, 0, 0] body), .inBlock 2, .code (sub [1, 1, 0, 1, 0, 0, 1, 0, 0, 1] body), .inBlock 1, .code (sub [1, 1, 0, 1, 0, 0, 1, 1] body), .inLoop (sub [1, 1, 0, 1, 0, 0] body), .inBlock 0, .code (sub [1, 1, 1] body)]
def L1 (s0 : Option Addr) (s0n : Nat) (s0c : Nat) (s1 : Int) (s2 : Int) (s7 : Int) (s8 : Int) (H : Heap) (R : Ending → Heap → Prop) : Prop :=
  GoL Tryz.prog 74 133 L1t [0, 1, 2, 7, 8] [(.slice s0 s0n s0c), (.int .i64 s1), (.int .i64 s2), (.int .i64 s7), (.int .i64 s8)] H R
noncomputable def L2t : List Item := [.code (sub [1, 1, 0, 1, 0, 0, 1, 0, 0, 1] body), .inBlock 1, .code (sub [1, 1, 0, 1, 0, 0, 1, 1] body), .inLoop (sub [1, 1, 0, 1, 0, 0] body), .inBlock 0, .code (sub [1, 1, 1] body)]
def L2 (s0 : Option Addr) (s0n : Nat) (s0c : Nat) (s1 : Int) (s2 : Int) (s7 : Int) (s8 : Int) (H : Heap) (R : Ending → Heap → Prop) : Prop :=
  GoL Tryz.prog 74 133 L2t [0, 1, 2, 7, 8] [(.slice s0 s0n s0c), (.int .i64 s1), (.int .i64 s2), (.int .i64 s7), (.int .i64 s8)] H R
noncomputable def L3t : List Item := [.code (sub [1, 1, 0, 1, 0, 0, 1, 0, 0, 1, 1, 1, 1, 0, 1, 0, 1, 0, 0] body), .inLoop (sub [1, 1, 0, 1, 0, 0, 1, 0, 0, 1, 1, 1, 1, 0, 1, 0, 1, 0, 0] body), .inBlock 4, .code (sub [1, 1, 0, 1, 0, 0, 1, 0, 0, 1, 1, 1, 1, 1] body), .inBlock 1, .code (sub [1, 1, 0, 1, 0, 0, 1, 1] body), .inLoop (sub [1, 1, 0, 1, 0, 0] body), .inBlock 0, .code (sub [1, 1, 1] body)]
def L3 (s0 : Option Addr) (s0n : Nat) (s0c : Nat) (s1 : Int) (s2 : Int) (s7 : Int) (s8 : Int) (s9 : Int) (H : Heap) (R : Ending → Heap → Prop) : Prop :=
  GoL Tryz.prog 74 133 L3t [0, 1, 2, 7, 8, 9] [(.slice s0 s0n s0c), (.int .i64 s1), (.int .i64 s2), (.int .i64 s7), (.int .i64 s8), (.int .i64 s9)] H R
noncomputable def L4t : List Item := [.code (sub [1, 1, 0, 1, 0, 0, 1, 0, 0, 1, 1, 1, 1, 1] body), .inBlock 1, .code (sub [1, 1, 0, 1, 0, 0, 1, 1] body), .inLoop (sub [1, 1, 0, 1, 0, 0] body), .inBlock 0, .code (sub [1, 1, 1] body)]
def L4 (s0 : Option Addr) (s0n : Nat) (s0c : Nat) (s1 : Int) (s2 : Int) (s7 : Int) (s8 : Int) (H : Heap) (R : Ending → Heap → Prop) : Prop :=
  GoL Tryz.prog 74 133 L4t [0, 1, 2, 7, 8] [(.slice s0 s0n s0c), (.int .i64 s1), (.int .i64 s2), (.int .i64 s7), (.int .i64 s8)] H R
noncomputable def L5t : List Item := [.code (sub [1, 1, 0, 1, 0, 0, 1, 0, 0, 1, 1, 1, 1, 1, 1, 0, 1, 0, 0] body), .inLoop (sub [1, 1, 0, 1, 0, 0, 1, 0, 0, 1, 1, 1, 1, 1, 1, 0, 1, 0, 0] body), .inBlock 6, .inBlock 1, .code (sub [1, 1, 0, 1, 0, 0, 1, 1] body), .inLoop (sub [1, 1, 0, 1, 0, 0] body), .inBlock 0, .code (sub [1, 1, 1] body)]
def L5 (s0 : Option Addr) (s0n : Nat) (s0c : Nat) (s1 : Int) (s2 : Int) (s7 : Int) (s8 : Int) (s10 : Int) (H : Heap) (R : Ending → Heap → Prop) : Prop :=
  GoL Tryz.prog 74 133 L5t [0, 1, 2, 7, 8, 10] [(.slice s0 s0n s0c), (.int .i64 s1), (.int .i64 s2), (.int .i64 s7), (.int .i64 s8), (.int .i64 s10)] H R
noncomputable def L6t : List Item := [.code (sub [1, 1, 0, 1, 0, 0, 1, 1] body), .inLoop (sub [1, 1, 0, 1, 0, 0] body), .inBlock 0, .code (sub [1, 1, 1] body)]
def L6 (s0 : Option Addr) (s0n : Nat) (s0c : Nat) (s1 : Int) (s2 : Int) (s7 : Int) (s8 : Int) (H : Heap) (R : Ending → Heap → Prop) : Prop :=
  GoL Tryz.prog 74 133 L6t [0, 1, 2, 7, 8] [(.slice s0 s0n s0c), (.int .i64 s1), (.int .i64 s2), (.int .i64 s7), (.int .i64 s8)] H R
noncomputable def L7t : List Item := [.code (sub [1, 1, 0, 1, 0, 0, 1, 0, 0, 0, 0, 0, 1] body), .inLoop (sub [1, 1, 0, 1, 0, 0, 1, 0, 0, 0, 0, 0] body), .inBlock 2, .code (sub [1, 1, 0, 1, 0, 0, 1, 0, 0, 1] body), .inBlock 1, .code (sub [1, 1, 0, 1, 0, 0, 1, 1] body), .inLoop (sub [1, 1, 0, 1, 0, 0] body), .inBlock 0, .code (sub [1, 1, 1] body)]
def L7 (s0 : Option Addr) (s0n : Nat) (s0c : Nat) (s1 : Int) (s2 : Int) (s7 : Int) (s8 : Int) (H : Heap) (R : Ending → Heap → Prop) : Prop :=
  GoL Tryz.prog 74 133 L7t [0, 1, 2, 7, 8] [(.slice s0 s0n s0c), (.int .i64 s1), (.int .i64 s2), (.int .i64 s7), (.int .i64 s8)] H R
def L0n (s0 : Option Addr) (s0n : Nat) (s0c : Nat) (s1 : Int) (s2 : Int) (s7 : Int) (s8 : Int) (H : Heap) (R : Ending → Heap → Prop) : Prop :=
  iteB (decide (s8 < (5 : Int))) (
    L1 s0 s0n s0c s1 s2 s7 s8 H R) <|
  R (.returned (.bool false)) H
theorem L0_step {s0 : Option Addr} {s0n : Nat} {s0c : Nat} {s1 : Int} {s2 : Int} {s7 : Int} {s8 : Int} {H : Heap} {R : Ending → Heap → Prop} (h : L0n s0 s0n s0c s1 s2 s7 s8 H R) : L0 s0 s0n s0c s1 s2 s7 s8 H R :=
  goL_of_den (an := an) (fuel := 100000) (X := L0n s0 s0n s0c s1 s2 s7 s8 H R) mixed fn (by kernel_rfl) (fun ρ0 => by kernel_rfl) h
def L1n (s0 : Option Addr) (s0n : Nat) (s0c : Nat) (s1 : Int) (s2 : Int) (s7 : Int) (s8 : Int) (H : Heap) (R : Ending → Heap → Prop) : Prop :=
  iteB (decide (s7 < s2)) (
    idxD s0 s0n s7 fun a =>
    idxD s0 s0n (IntKind.wrap .i64 (s7 - (1 : Int))) fun a1 =>
    ldInt H (Addr.add a (Int.toNat s7 * 1)) .i64 fun n =>
    ldInt H (Addr.add a1 (Int.toNat (IntKind.wrap .i64 (s7 - (1 : Int))) * 1)) .i64 fun n1 =>
    callD Tryz.prog 75 [(.int .i64 n), (.int .i64 n1)] H (panK R) fun v H1 =>
    tBool v fun b =>
    iteB (!b) (
      L7 s0 s0n s0c s1 s2 s7 s8 H1 R) <|
    L2 s0 s0n s0c s1 s2 s7 s8 H1 R) <|
  L2 s0 s0n s0c s1 s2 s7 s8 H R
theorem L1_step {s0 : Option Addr} {s0n : Nat} {s0c : Nat} {s1 : Int} {s2 : Int} {s7 : Int} {s8 : Int} {H : Heap} {R : Ending → Heap → Prop} (h : L1n s0 s0n s0c s1 s2 s7 s8 H R) : L1 s0 s0n s0c s1 s2 s7 s8 H R :=
  goL_of_den (an := an) (fuel := 100000) (X := L1n s0 s0n s0c s1 s2 s7 s8 H R) mixed fn (by kernel_rfl) (fun ρ0 => by kernel_rfl) h
def L2n (s0 : Option Addr) (s0n : Nat) (s0c : Nat) (s1 : Int) (s2 : Int) (s7 : Int) (s8 : Int) (H : Heap) (R : Ending → Heap → Prop) : Prop :=
  iteB (s7 == s2) (
    R (.returned (.bool true)) H) <|
  iteB (decide ((IntKind.wrap .i64 (s2 - s1)) < (50 : Int))) (
    R (.returned (.bool false)) H) <|
  idxD s0 s0n (IntKind.wrap .i64 (s7 - (1 : Int))) fun a =>
  idxD s0 s0n s7 fun a1 =>
  ldInt H (Addr.add a (Int.toNat (IntKind.wrap .i64 (s7 - (1 : Int))) * 1)) .i64 fun n =>
  ldInt H (Addr.add a1 (Int.toNat s7 * 1)) .i64 fun n1 =>
  idxD s0 s0n s7 fun a2 =>
  st1 H (Addr.add a2 (Int.toNat s7 * 1)) (.int .i64 n) fun H1 =>
  idxD s0 s0n (IntKind.wrap .i64 (s7 - (1 : Int))) fun a3 =>
  st1 H1 (Addr.add a3 (Int.toNat (IntKind.wrap .i64 (s7 - (1 : Int))) * 1)) (.int .i64 n1) fun H2 =>
  iteB (decide ((IntKind.wrap .i64 (s7 - s1)) ≥ (2 : Int))) (
    L3 s0 s0n s0c s1 s2 s7 s8 (IntKind.wrap .i64 (s7 - (1 : Int))) H2 R) <|
  L4 s0 s0n s0c s1 s2 s7 s8 H2 R
theorem L2_step {s0 : Option Addr} {s0n : Nat} {s0c : Nat} {s1 : Int} {s2 : Int} {s7 : Int} {s8 : Int} {H : Heap} {R : Ending → Heap → Prop} (h : L2n s0 s0n s0c s1 s2 s7 s8 H R) : L2 s0 s0n s0c s1 s2 s7 s8 H R :=
  goL_of_den (an := an) (fuel := 100000) (X := L2n s0 s0n s0c s1 s2 s7 s8 H R) mixed fn (by kernel_rfl) (fun ρ0 => by kernel_rfl) h
def L3n (s0 : Option Addr) (s0n : Nat) (s0c : Nat) (s1 : Int) (s2 : Int) (s7 : Int) (s8 : Int) (s9 : Int) (H : Heap) (R : Ending → Heap → Prop) : Prop :=
  iteB (decide (s9 ≥ (1 : Int))) (
    idxD s0 s0n s9 fun a =>
    idxD s0 s0n (IntKind.wrap .i64 (s9 - (1 : Int))) fun a1 =>
    ldInt H (Addr.add a (Int.toNat s9 * 1)) .i64 fun n =>
    ldInt H (Addr.add a1 (Int.toNat (IntKind.wrap .i64 (s9 - (1 : Int))) * 1)) .i64 fun n1 =>
    callD Tryz.prog 75 [(.int .i64 n), (.int .i64 n1)] H (panK R) fun v H1 =>
    tBool v fun b =>
    iteB (!b) (
      L4 s0 s0n s0c s1 s2 s7 s8 H1 R) <|
    idxD s0 s0n (IntKind.wrap .i64 (s9 - (1 : Int))) fun a2 =>
    idxD s0 s0n s9 fun a3 =>
    ldInt H1 (Addr.add a2 (Int.toNat (IntKind.wrap .i64 (s9 - (1 : Int))) * 1)) .i64 fun n2 =>
    ldInt H1 (Addr.add a3 (Int.toNat s9 * 1)) .i64 fun n3 =>
    idxD s0 s0n s9 fun a4 =>
    st1 H1 (Addr.add a4 (Int.toNat s9 * 1)) (.int .i64 n2) fun H2 =>
    idxD s0 s0n (IntKind.wrap .i64 (s9 - (1 : Int))) fun a5 =>
    st1 H2 (Addr.add a5 (Int.toNat (IntKind.wrap .i64 (s9 - (1 : Int))) * 1)) (.int .i64 n3) fun H3 =>
    L3 s0 s0n s0c s1 s2 s7 s8 (IntKind.wrap .i64 (s9 - (1 : Int))) H3 R) <|
  L4 s0 s0n s0c s1 s2 s7 s8 H R
theorem L3_step {s0 : Option Addr} {s0n : Nat} {s0c : Nat} {s1 : Int} {s2 : Int} {s7 : Int} {s8 : Int} {s9 : Int} {H : Heap} {R : Ending → Heap → Prop} (h : L3n s0 s0n s0c s1 s2 s7 s8 s9 H R) : L3 s0 s0n s0c s1 s2 s7 s8 s9 H R :=
  goL_of_den (an := an) (fuel := 100000) (X := L3n s0 s0n s0c s1 s2 s7 s8 s9 H R) mixed fn (by kernel_rfl) (fun ρ0 => by kernel_rfl) h
def L4n (s0 : Option Addr) (s0n : Nat) (s0c : Nat) (s1 : Int) (s2 : Int) (s7 : Int) (s8 : Int) (H : Heap) (R : Ending → Heap → Prop) : Prop :=
  iteB (decide ((IntKind.wrap .i64 (s2 - s7)) ≥ (2 : Int))) (
    L5 s0 s0n s0c s1 s2 s7 s8 (IntKind.wrap .i64 (s7 + (1 : Int))) H R) <|
  L6 s0 s0n s0c s1 s2 s7 s8 H R
theorem L4_step {s0 : Option Addr} {s0n : Nat} {s0c : Nat} {s1 : Int} {s2 : Int} {s7 : Int} {s8 : Int} {H : Heap} {R : Ending → Heap → Prop} (h : L4n s0 s0n s0c s1 s2 s7 s8 H R) : L4 s0 s0n s0c s1 s2 s7 s8 H R :=
  goL_of_den (an := an) (fuel := 100000) (X := L4n s0 s0n s0c s1 s2 s7 s8 H R) mixed fn (by kernel_rfl) (fun ρ0 => by kernel_rfl) h
def L5n (s0 : Option Addr) (s0n : Nat) (s0c : Nat) (s1 : Int) (s2 : Int) (s7 : Int) (s8 : Int) (s10 : Int) (H : Heap) (R : Ending → Heap → Prop) : Prop :=
  iteB (decide (s10 < s2)) (
    idxD s0 s0n s10 fun a =>
    idxD s0 s0n (IntKind.wrap .i64 (s10 - (1 : Int))) fun a1 =>
    ldInt H (Addr.add a (Int.toNat s10 * 1)) .i64 fun n =>
    ldInt H (Addr.add a1 (Int.toNat (IntKind.wrap .i64 (s10 - (1 : Int))) * 1)) .i64 fun n1 =>
    callD Tryz.prog 75 [(.int .i64 n), (.int .i64 n1)] H (panK R) fun v H1 =>
    tBool v fun b =>
    iteB (!b) (
      L6 s0 s0n s0c s1 s2 s7 s8 H1 R) <|
    idxD s0 s0n (IntKind.wrap .i64 (s10 - (1 : Int))) fun a2 =>
    idxD s0 s0n s10 fun a3 =>
    ldInt H1 (Addr.add a2 (Int.toNat (IntKind.wrap .i64 (s10 - (1 : Int))) * 1)) .i64 fun n2 =>
    ldInt H1 (Addr.add a3 (Int.toNat s10 * 1)) .i64 fun n3 =>
    idxD s0 s0n s10 fun a4 =>
    st1 H1 (Addr.add a4 (Int.toNat s10 * 1)) (.int .i64 n2) fun H2 =>
    idxD s0 s0n (IntKind.wrap .i64 (s10 - (1 : Int))) fun a5 =>
    st1 H2 (Addr.add a5 (Int.toNat (IntKind.wrap .i64 (s10 - (1 : Int))) * 1)) (.int .i64 n3) fun H3 =>
    L5 s0 s0n s0c s1 s2 s7 s8 (IntKind.wrap .i64 (s10 + (1 : Int))) H3 R) <|
  L6 s0 s0n s0c s1 s2 s7 s8 H R
theorem L5_step {s0 : Option Addr} {s0n : Nat} {s0c : Nat} {s1 : Int} {s2 : Int} {s7 : Int} {s8 : Int} {s10 : Int} {H : Heap} {R : Ending → Heap → Prop} (h : L5n s0 s0n s0c s1 s2 s7 s8 s10 H R) : L5 s0 s0n s0c s1 s2 s7 s8 s10 H R :=
  goL_of_den (an := an) (fuel := 100000) (X := L5n s0 s0n s0c s1 s2 s7 s8 s10 H R) mixed fn (by kernel_rfl) (fun ρ0 => by kernel_rfl) h
def L6n (s0 : Option Addr) (s0n : Nat) (s0c : Nat) (s1 : Int) (s2 : Int) (s7 : Int) (s8 : Int) (H : Heap) (R : Ending → Heap → Prop) : Prop :=
  L0 s0 s0n s0c s1 s2 s7 (IntKind.wrap .i64 (s8 + (1 : Int))) H R
theorem L6_step {s0 : Option Addr} {s0n : Nat} {s0c : Nat} {s1 : Int} {s2 : Int} {s7 : Int} {s8 : Int} {H : Heap} {R : Ending → Heap → Prop} (h : L6n s0 s0n s0c s1 s2 s7 s8 H R) : L6 s0 s0n s0c s1 s2 s7 s8 H R :=
  goL_of_den (an := an) (fuel := 100000) (X := L6n s0 s0n s0c s1 s2 s7 s8 H R) mixed fn (by kernel_rfl) (fun ρ0 => by kernel_rfl) h
def L7n (s0 : Option Addr) (s0n : Nat) (s0c : Nat) (s1 : Int) (s2 : Int) (s7 : Int) (s8 : Int) (H : Heap) (R : Ending → Heap → Prop) : Prop :=
  L1 s0 s0n s0c s1 s2 (IntKind.wrap .i64 (s7 + (1 : Int))) s8 H R
theorem L7_step {s0 : Option Addr} {s0n : Nat} {s0c : Nat} {s1 : Int} {s2 : Int} {s7 : Int} {s8 : Int} {H : Heap} {R : Ending → Heap → Prop} (h : L7n s0 s0n s0c s1 s2 s7 s8 H R) : L7 s0 s0n s0c s1 s2 s7 s8 H R :=
  goL_of_den (an := an) (fuel := 100000) (X := L7n s0 s0n s0c s1 s2 s7 s8 H R) mixed fn (by kernel_rfl) (fun ρ0 => by kernel_rfl) h
def go (s0 : Option Addr) (s0n : Nat) (s0c : Nat) (s1 : Int) (s2 : Int) (H : Heap) (R : Ending → Heap → Prop) : Prop :=
  L0 s0 s0n s0c s1 s2 (IntKind.wrap .i64 (s1 + (1 : Int))) (0 : Int) H R
theorem calls {s0 : Option Addr} {s0n : Nat} {s0c : Nat} {s1 : Int} {s2 : Int} {H : Heap} {R : Ending → Heap → Prop} (h : go s0 s0n s0c s1 s2 H R) : CallsH Tryz.prog 74 ⟨[(.slice s0 s0n s0c), (.int .i64 s1), (.int .i64 s2)]⟩ H R :=
  callsH_of_den (an := an) (fuel := 100000) (X := go s0 s0n s0c s1 s2 H R) (c := body) mixed fn (by kernel_rfl) (by kernel_rfl) (by kernel_rfl) ok (by kernel_rfl) h
end F74
/-! ### 75 "cmp.Less[int64]" -/
namespace F75
def an : Ann := { kinds := [], taus := [], pairs := [], lab := [] }
noncomputable def body : Code := (Tryz.f75.body).getD .skip
theorem fn : Tryz.prog.funcs[75]? = some Tryz.f75 := by kernel_rfl
theorem ok : codeOk an 17 body = true := by kernel_rfl
def go (x : Int) (y : Int) (H : Heap) (R : Ending → Heap → Prop) : Prop :=
  callD Tryz.prog 95 [(.int .i64 x)] H (panK R) fun v H1 =>
  tBool v fun b =>
  iteB b (
    callD Tryz.prog 95 [(.int .i64 y)] H1 (panK R) fun v1 H2 =>
    tBool v1 fun b1 =>
    iteB (!b1) (
      R (.returned (.bool true)) H2) <|
    R (.returned (.bool (decide (x < y)))) H2) <|
  R (.returned (.bool (decide (x < y)))) H1
theorem calls {x : Int} {y : Int} {H : Heap} {R : Ending → Heap → Prop} (h : go x y H R) : CallsH Tryz.prog 75 ⟨[(.int .i64 x), (.int .i64 y)]⟩ H R :=
  callsH_of_den (an := an) (fuel := 100000) (X := go x y H R) (c := body) mixed fn (by kernel_rfl) (by kernel_rfl) (by kernel_rfl) ok (by kernel_rfl) h
end F75
/-! ### 76 "slices.partitionEqualOrdered[int64]" -/
namespace F76
def an : Ann := { kinds := [], taus := [(1, [[0, 1, 2, 3, 4, 5, 6, 8, 9, 10, 7, 11, 12, 13, 14, 15]]), (3, [[0, 1, 2, 3, 4, 5, 6, 8, 9, 10, 7, 11, 12, 13, 14]]), (5, [[0, 1, 2, 3, 4, 5, 6, 8, 9, 10, 7, 11, 12, 13]]), (8, [[0, 1, 2, 3, 4, 5, 6, 8, 9, 10, 7, 11, 12, 13, 14, 15]])], pairs := [], lab := [(40000004, [0, 1, 9, 10]), (80000004, [0, 1, 9, 10]), (50000006, [0, 1, 9, 10]), (80000006, [0, 1, 9, 10]), (50000008, [0, 1, 9, 10]), (80000007, [0, 1, 9, 10]), (80000005, [0, 1, 9, 10])] }
noncomputable def body : Code := (Tryz.f76.body).getD .skip
theorem fn : Tryz.prog.funcs[76]? = some Tryz.f76 := by kernel_rfl
theorem ok : codeOk an 84 body = true := by kernel_rfl
noncomputable def L0t : List Item := [.code (sub [1, 1, 1, 0, 0, 0] body), .inLoop (sub [1, 1, 1, 0, 0, 0] body), .inBlock 0, .code (sub [1, 1, 1, 1] body)]
def L0 (s0 : Option Addr) (s0n : Nat) (s0c : Nat) (s1 : Int) (s9 : Int) (s10 : Int) (H : Heap) (R : Ending → Heap → Prop) : Prop :=
  GoL Tryz.prog 76 84 L0t [0, 1, 9, 10] [(.slice s0 s0n s0c), (.int .i64 s1), (.int .i64 s9), (.int .i64 s10)] H R
noncomputable def L1t : List Item := [.code (sub [1, 1, 1, 0, 0, 0, 0, 0, 0, 0] body), .inLoop (sub [1, 1, 1, 0, 0, 0, 0, 0, 0, 0] body), .inBlock 2, .code (sub [1, 1, 1, 0, 0, 0, 0, 1] body), .inBlock 1, .inLoop (sub [1, 1, 1, 0, 0, 0] body), .inBlock 0, .code (sub [1, 1, 1, 1] body)]
def L1 (s0 : Option Addr) (s0n : Nat) (s0c : Nat) (s1 : Int) (s9 : Int) (s10 : Int) (H : Heap) (R : Ending → Heap → Prop) : Prop :=
  GoL Tryz.prog 76 84 L1t [0, 1, 9, 10] [(.slice s0 s0n s0c), (.int .i64 s1), (.int .i64 s9), (.int .i64 s10)] H R
noncomputable def L2t : List Item := [.code (sub [1, 1, 1, 0, 0, 0, 0, 1] body), .inBlock 1, .inLoop (sub [1, 1, 1, 0, 0, 0] body), .inBlock 0, .code (sub [1, 1, 1, 1] body)]
def L2 (s0 : Option Addr) (s0n : Nat) (s0c : Nat) (s1 : Int) (s9 : Int) (s10 : Int) (H : Heap) (R : Ending → Heap → Prop) : Prop :=
  GoL Tryz.prog 76 84 L2t [0, 1, 9, 10] [(.slice s0 s0n s0c), (.int .i64 s1), (.int .i64 s9), (.int .i64 s10)] H R
noncomputable def L3t : List Item := [.code (sub [1, 1, 1, 0, 0, 0, 0, 1, 0, 0, 0] body), .inLoop (sub [1, 1, 1, 0, 0, 0, 0, 1, 0, 0, 0] body), .inBlock 4, .code (sub [1, 1, 1, 0, 0, 0, 0, 1, 1] body), .inBlock 1, .inLoop (sub [1, 1, 1, 0, 0, 0] body), .inBlock 0, .code (sub [1, 1, 1, 1] body)]
def L3 (s0 : Option Addr) (s0n : Nat) (s0c : Nat) (s1 : Int) (s9 : Int) (s10 : Int) (H : Heap) (R : Ending → Heap → Prop) : Prop :=
  GoL Tryz.prog 76 84 L3t [0, 1, 9, 10] [(.slice s0 s0n s0c), (.int .i64 s1), (.int .i64 s9), (.int .i64 s10)] H R
noncomputable def L4t : List Item := [.code (sub [1, 1, 1, 0, 0, 0, 0, 1, 1] body), .inBlock 1, .inLoop (sub [1, 1, 1, 0, 0, 0] body), .inBlock 0, .code (sub [1, 1, 1, 1] body)]
def L4 (s0 : Option Addr) (s0n : Nat) (s0c : Nat) (s1 : Int) (s9 : Int) (s10 : Int) (H : Heap) (R : Ending → Heap → Prop) : Prop :=
  GoL Tryz.prog 76 84 L4t [0, 1, 9, 10] [(.slice s0 s0n s0c), (.int .i64 s1), (.int .i64 s9), (.int .i64 s10)] H R
noncomputable def L5t : List Item := [.code (sub [1, 1, 1, 0, 0, 0, 0, 1, 0, 0, 0, 1] body), .inLoop (sub [1, 1, 1, 0, 0, 0, 0, 1, 0, 0, 0] body), .inBlock 4, .code (sub [1, 1, 1, 0, 0, 0, 0, 1, 1] body), .inBlock 1, .inLoop (sub [1, 1, 1, 0, 0, 0] body), .inBlock 0, .code (sub [1, 1, 1, 1] body)]
def L5 (s0 : Option Addr) (s0n : Nat) (s0c : Nat) (s1 : Int) (s9 : Int) (s10 : Int) (H : Heap) (R : Ending → Heap → Prop) : Prop :=
  GoL Tryz.prog 76 84 L5t [0, 1, 9, 10] [(.slice s0 s0n s0c), (.int .i64 s1), (.int .i64 s9), (.int .i64 s10)] H R
noncomputable def L6t : List Item := [.code (sub [1, 1, 1, 0, 0, 0, 0, 0, 0, 0, 1] body), .inLoop (sub [1, 1, 1, 0, 0, 0, 0, 0, 0, 0] body), .inBlock 2, .code (sub [1, 1, 1, 0, 0, 0, 0, 1] body), .inBlock 1, .inLoop (sub [1, 1, 1, 0, 0, 0] body), .inBlock 0, .code (sub [1, 1, 1, 1] body)]
def L6 (s0 : Option Addr) (s0n : Nat) (s0c : Nat) (s1 : Int) (s9 : Int) (s10 : Int) (H : Heap) (R : Ending → Heap → Prop) : Prop :=
  GoL Tryz.prog 76 84 L6t [0, 1, 9, 10] [(.slice s0 s0n s0c), (.int .i64 s1), (.int .i64 s9), (.int .i64 s10)] H R
def L0n (s0 : Option Addr) (s0n : Nat) (s0c : Nat) (s1 : Int) (s9 : Int) (s10 : Int) (H : Heap) (R : Ending → Heap → Prop) : Prop :=
  L1 s0 s0n s0c s1 s9 s10 H R
theorem L0_step {s0 : Option Addr} {s0n : Nat} {s0c : Nat} {s1 : Int} {s9 : Int} {s10 : Int} {H : Heap} {R : Ending → Heap → Prop} (h : L0n s0 s0n s0c s1 s9 s10 H R) : L0 s0 s0n s0c s1 s9 s10 H R :=
  goL_of_den (an := an) (fuel := 100000) (X := L0n s0 s0n s0c s1 s9 s10 H R) mixed fn (by kernel_rfl) (fun ρ0 => by kernel_rfl) h
def L1n (s0 : Option Addr) (s0n : Nat) (s0c : Nat) (s1 : Int) (s9 : Int) (s10 : Int) (H : Heap) (R : Ending → Heap → Prop) : Prop :=
  iteB (decide (s9 ≤ s10)) (
    idxD s0 s0n s1 fun a =>
    idxD s0 s0n s9 fun a1 =>
    ldInt H (Addr.add a (Int.toNat s1 * 1)) .i64 fun n =>
    ldInt H (Addr.add a1 (Int.toNat s9 * 1)) .i64 fun n1 =>
    callD Tryz.prog 75 [(.int .i64 n), (.int .i64 n1)] H (panK R) fun v H1 =>
    tBool v fun b =>
    iteB (!b) (
      L6 s0 s0n s0c s1 s9 s10 H1 R) <|
    L2 s0 s0n s0c s1 s9 s10 H1 R) <|
  L2 s0 s0n s0c s1 s9 s10 H R
theorem L1_step {s0 : Option Addr} {s0n : Nat} {s0c : Nat} {s1 : Int} {s9 : Int} {s10 : Int} {H : Heap} {R : Ending → Heap → Prop} (h : L1n s0 s0n s0c s1 s9 s10 H R) : L1 s0 s0n s0c s1 s9 s10 H R :=
  goL_of_den (an := an) (fuel := 100000) (X := L1n s0 s0n s0c s1 s9 s10 H R) mixed fn (by kernel_rfl) (fun ρ0 => by kernel_rfl) h
def L2n (s0 : Option Addr) (s0n : Nat) (s0c : Nat) (s1 : Int) (s9 : Int) (s10 : Int) (H : Heap) (R : Ending → Heap → Prop) : Prop :=
  L3 s0 s0n s0c s1 s9 s10 H R
theorem L2_step {s0 : Option Addr} {s0n : Nat} {s0c : Nat} {s1 : Int} {s9 : Int} {s10 : Int} {H : Heap} {R : Ending → Heap → Prop} (h : L2n s0 s0n s0c s1 s9 s10 H R) : L2 s0 s0n s0c s1 s9 s10 H R :=
  goL_of_den (an := an) (fuel := 100000) (X := L2n s0 s0n s0c s1 s9 s10 H R) mixed fn (by kernel_rfl) (fun ρ0 => by kernel_rfl) h
def L3n (s0 : Option Addr) (s0n : Nat) (s0c : Nat) (s1 : Int) (s9 : Int) (s10 : Int) (H : Heap) (R : Ending → Heap → Prop) : Prop :=
  iteB (decide (s9 ≤ s10)) (
    idxD s0 s0n s1 fun a =>
    idxD s0 s0n s10 fun a1 =>
    ldInt H (Addr.add a (Int.toNat s1 * 1)) .i64 fun n =>
    ldInt H (Addr.add a1 (Int.toNat s10 * 1)) .i64 fun n1 =>
    callD Tryz.prog 75 [(.int .i64 n), (.int .i64 n1)] H (panK R) fun v H1 =>
    tBool v fun b =>
    iteB b (
      L5 s0 s0n s0c s1 s9 s10 H1 R) <|
    L4 s0 s0n s0c s1 s9 s10 H1 R) <|
  L4 s0 s0n s0c s1 s9 s10 H R
theorem L3_step {s0 : Option Addr} {s0n : Nat} {s0c : Nat} {s1 : Int} {s9 : Int} {s10 : Int} {H : Heap} {R : Ending → Heap → Prop} (h : L3n s0 s0n s0c s1 s9 s10 H R) : L3 s0 s0n s0c s1 s9 s10 H R :=
  goL_of_den (an := an) (fuel := 100000) (X := L3n s0 s0n s0c s1 s9 s10 H R) mixed fn (by kernel_rfl) (fun ρ0 => by kernel_rfl) h
def L4n (s0 : Option Addr) (s0n : Nat) (s0c : Nat) (s1 : Int) (s9 : Int) (s10 : Int) (H : Heap) (R : Ending → Heap → Prop) : Prop :=
  iteB (decide (s9 > s10)) (
    R (.returned (.int .i64 s9)) H) <|
  idxD s0 s0n s10 fun a =>
  idxD s0 s0n s9 fun a1 =>
  ldInt H (Addr.add a (Int.toNat s10 * 1)) .i64 fun n =>
  ldInt H (Addr.add a1 (Int.toNat s9 * 1)) .i64 fun n1 =>
  idxD s0 s0n s9 fun a2 =>
  st1 H (Addr.add a2 (Int.toNat s9 * 1)) (.int .i64 n) fun H1 =>
  idxD s0 s0n s10 fun a3 =>
  st1 H1 (Addr.add a3 (Int.toNat s10 * 1)) (.int .i64 n1) fun H2 =>
  L0 s0 s0n s0c s1 (IntKind.wrap .i64 (s9 + (1 : Int))) (IntKind.wrap .i64 (s10 - (1 : Int))) H2 R
theorem L4_step {s0 : Option Addr} {s0n : Nat} {s0c : Nat} {s1 : Int} {s9 : Int} {s10 : Int} {H : Heap} {R : Ending → Heap → Prop} (h : L4n s0 s0n s0c s1 s9 s10 H R) : L4 s0 s0n s0c s1 s9 s10 H R :=
  goL_of_den (an := an) (fuel := 100000) (X := L4n s0 s0n s0c s1 s9 s10 H R) mixed fn (by kernel_rfl) (fun ρ0 => by kernel_rfl) h
def L5n (s0 : Option Addr) (s0n : Nat) (s0c : Nat) (s1 : Int) (s9 : Int) (s10 : Int) (H : Heap) (R : Ending → Heap → Prop) : Prop :=
  L3 s0 s0n s0c s1 s9 (IntKind.wrap .i64 (s10 - (1 : Int))) H R
theorem L5_step {s0 : Option Addr} {s0n : Nat} {s0c : Nat} {s1 : Int} {s9 : Int} {s10 : Int} {H : Heap} {R : Ending → Heap → Prop} (h : L5n s0 s0n s0c s1 s9 s10 H R) : L5 s0 s0n s0c s1 s9 s10 H R :=
  goL_of_den (an := an) (fuel := 100000) (X := L5n s0 s0n s0c s1 s9 s10 H R) mixed fn (by kernel_rfl) (fun ρ0 => by kernel_rfl) h
def L6n (s0 : Option Addr) (s0n : Nat) (s0c : Nat) (s1 : Int) (s9 : Int) (s10 : Int) (H : Heap) (R : Ending → Heap → Prop) : Prop :=
  L1 s0 s0n s0c s1 (IntKind.wrap .i64 (s9 + (1 : Int))) s10 H R
theorem L6_step {s0 : Option Addr} {s0n : Nat} {s0c : Nat} {s1 : Int} {s9 : Int} {s10 : Int} {H : Heap} {R : Ending → Heap → Prop} (h : L6n s0 s0n s0c s1 s9 s10 H R) : L6 s0 s0n s0c s1 s9 s10 H R :=
  goL_of_den (an := an) (fuel := 100000) (X := L6n s0 s0n s0c s1 s9 s10 H R) mixed fn (by kernel_rfl) (fun ρ0 => by kernel_rfl) h
def go (s0 : Option Addr) (s0n : Nat) (s0c : Nat) (s1 : Int) (s2 : Int) (s3 : Int) (H : Heap) (R : Ending → Heap → Prop) : Prop :=
  idxD s0 s0n s3 fun a =>
  idxD s0 s0n s1 fun a1 =>
  ldInt H (Addr.add a (Int.toNat s3 * 1)) .i64 fun n =>
  ldInt H (Addr.add a1 (Int.toNat s1 * 1)) .i64 fun n1 =>
  idxD s0 s0n s1 fun a2 =>
  st1 H (Addr.add a2 (Int.toNat s1 * 1)) (.int .i64 n) fun H1 =>
  idxD s0 s0n s3 fun a3 =>
  st1 H1 (Addr.add a3 (Int.toNat s3 * 1)) (.int .i64 n1) fun H2 =>
  L0 s0 s0n s0c s1 (IntKind.wrap .i64 (s1 + (1 : Int))) (IntKind.wrap .i64 (s2 - (1 : Int))) H2 R
theorem calls {s0 : Option Addr} {s0n : Nat} {s0c : Nat} {s1 : Int} {s2 : Int} {s3 : Int} {H : Heap} {R : Ending → Heap → Prop} (h : go s0 s0n s0c s1 s2 s3 H R) : CallsH Tryz.prog 76 ⟨[(.slice s0 s0n s0c), (.int .i64 s1), (.int .i64 s2), (.int .i64 s3)]⟩ H R :=
  callsH_of_den (an := an) (fuel := 100000) (X := go s0 s0n s0c s1 s2 s3 H R) (c := body) mixed fn (by kernel_rfl) (by kernel_rfl) (by kernel_rfl) ok (by kernel_rfl) h
end F76
/-! ### 77 "slices.partitionOrdered[int64]" -/
namespace F77
def an : Ann := { kinds := [], taus := [(1, [[0, 1, 2, 3, 4, 5, 6, 8, 9, 10, 7, 11, 12, 13, 14, 15]]), (3, [[0, 1, 2, 3, 4, 5, 6, 8, 9, 10, 7, 11, 12, 13]]), (5, [[0, 1, 2, 3, 4, 5, 6, 8, 9, 10, 7, 11, 12, 13, 14]]), (8, [[0, 1, 2, 3, 4, 5, 6, 8, 9, 10, 7, 11, 12, 13, 14, 15]]), (10, [[0, 1, 2, 3, 4, 5, 6, 8, 9, 10, 7, 11, 12, 13, 14, 15]]), (13, [[0, 1, 2, 3, 4, 5, 6, 8, 9, 10, 7, 11, 12, 13]]), (15, [[0, 1, 2, 3, 4, 5, 6, 8, 9, 10, 7, 11, 12, 13, 14]]), (18, [[0, 1, 2, 3, 4, 5, 6, 8, 9, 10, 7, 11, 12, 13, 14, 15]]), (21, [[0, 1, 2, 3, 4, 5, 6, 8, 9, 10, 7, 11, 12, 13, 14, 15]])], pairs := [], lab := [(40000004, [0, 1, 10, 11]), (10000006, [0, 1, 10, 11]), (40000006, [0, 1, 10, 11]), (10000008, [0, 1, 10, 11]), (40000014, [0, 1, 10, 11]), (80000014, [0, 1, 10, 11]), (50000016, [0, 1, 10, 11]), (80000016, [0, 1, 10, 11]), (50000018, [0, 1, 10, 11]), (80000017, [0, 1, 10, 11]), (80000015, [0, 1, 10, 11]), (40000007, [0, 1, 10, 11]), (40000005, [0, 1, 10, 11])] }
noncomputable def body : Code := (Tryz.f77.body).getD .skip
theorem fn : Tryz.prog.funcs[77]? = some Tryz.f77 := by kernel_rfl
theorem ok : codeOk an 168 body = true := by kernel_rfl
noncomputable def L0t : List Item := [.code (sub [1, 1, 1, 0, 0, 0] body), .inLoop (sub [1, 1, 1, 0, 0, 0] body), .inBlock 0, .code (sub [1, 1, 1, 1] body)]
def L0 (s0 : Option Addr) (s0n : Nat) (s0c : Nat) (s1 : Int) (s10 : Int) (s11 : Int) (H : Heap) (R : Ending → Heap → Prop) : Prop :=
  GoL Tryz.prog 77 168 L0t [0, 1, 10, 11] [(.slice s0 s0n s0c), (.int .i64 s1), (.int .i64 s10), (.int .i64 s11)] H R
noncomputable def L1t : List Item := [.code (sub [1, 1, 1, 1] body)]
def L1 (s0 : Option Addr) (s0n : Nat) (s0c : Nat) (s1 : Int) (s10 : Int) (s11 : Int) (H : Heap) (R : Ending → Heap → Prop) : Prop :=
  GoL Tryz.prog 77 168 L1t [0, 1, 10, 11] [(.slice s0 s0n s0c), (.int .i64 s1), (.int .i64 s10), (.int .i64 s11)] H R
noncomputable def L2t : List Item := [.code (sub [1, 1, 1, 1, 0, 0, 0] body), .inLoop (sub [1, 1, 1, 1, 0, 0, 0] body), .inBlock 2, .code (sub [1, 1, 1, 1, 1] body)]
def L2 (s0 : Option Addr) (s0n : Nat) (s0c : Nat) (s1 : Int) (s10 : Int) (s11 : Int) (H : Heap) (R : Ending → Heap → Prop) : Prop :=
  GoL Tryz.prog 77 168 L2t [0, 1, 10, 11] [(.slice s0 s0n s0c), (.int .i64 s1), (.int .i64 s10), (.int .i64 s11)] H R
noncomputable def L3t : List Item := [.code (sub [1, 1, 1, 1, 1] body)]
def L3 (s0 : Option Addr) (s0n : Nat) (s0c : Nat) (s1 : Int) (s10 : Int) (s11 : Int) (H : Heap) (R : Ending → Heap → Prop) : Prop :=
  GoL Tryz.prog 77 168 L3t [0, 1, 10, 11] [(.slice s0 s0n s0c), (.int .i64 s1), (.int .i64 s10), (.int .i64 s11)] H R
noncomputable def L4t : List Item := [.code (sub [1, 1, 1, 1, 1, 1, 1, 1, 1, 0, 0, 0] body), .inLoop (sub [1, 1, 1, 1, 1, 1, 1, 1, 1, 0, 0, 0] body), .inBlock 4, .code (sub [1, 1, 1, 1, 1, 1, 1, 1, 1, 1] body)]
def L4 (s0 : Option Addr) (s0n : Nat) (s0c : Nat) (s1 : Int) (s10 : Int) (s11 : Int) (H : Heap) (R : Ending → Heap → Prop) : Prop :=
  GoL Tryz.prog 77 168 L4t [0, 1, 10, 11] [(.slice s0 s0n s0c), (.int .i64 s1), (.int .i64 s10), (.int .i64 s11)] H R
noncomputable def L5t : List Item := [.code (sub [1, 1, 1, 1, 1, 1, 1, 1, 1, 0, 0, 0, 0, 0, 0, 0] body), .inLoop (sub [1, 1, 1, 1, 1, 1, 1, 1, 1, 0, 0, 0, 0, 0, 0, 0] body), .inBlock 6, .code (sub [1, 1, 1, 1, 1, 1, 1, 1, 1, 0, 0, 0, 0, 1] body), .inBlock 5, .inLoop (sub [1, 1, 1, 1, 1, 1, 1, 1, 1, 0, 0, 0] body), .inBlock 4, .code (sub [1, 1, 1, 1, 1, 1, 1, 1, 1, 1] body)]
def L5 (s0 : Option Addr) (s0n : Nat) (s0c : Nat) (s1 : Int) (s10 : Int) (s11 : Int) (H : Heap) (R : Ending → Heap → Prop) : Prop :=
  GoL Tryz.prog 77 168 L5t [0, 1, 10, 11] [(.slice s0 s0n s0c), (.int .i64 s1), (.int .i64 s10), (.int .i64 s11)] H R
noncomputable def L6t : List Item := [.code (sub [1, 1, 1, 1, 1, 1, 1, 1, 1, 0, 0, 0, 0, 1] body), .inBlock 5, .inLoop (sub [1, 1, 1, 1, 1, 1, 1, 1, 1, 0, 0, 0] body), .inBlock 4, .code (sub [1, 1, 1, 1, 1, 1, 1, 1, 1, 1] body)]
def L6 (s0 : Option Addr) (s0n : Nat) (s0c : Nat) (s1 : Int) (s10 : Int) (s11 : Int) (H : Heap) (R : Ending → Heap → Prop) : Prop :=
  GoL Tryz.prog 77 168 L6t [0, 1, 10, 11] [(.slice s0 s0n s0c), (.int .i64 s1), (.int .i64 s10), (.int .i64 s11)] H R
noncomputable def L7t : List Item := [.code (sub [1, 1, 1, 1, 1, 1, 1, 1, 1, 0, 0, 0, 0, 1, 0, 0, 0] body), .inLoop (sub [1, 1, 1, 1, 1, 1, 1, 1, 1, 0, 0, 0, 0, 1, 0, 0, 0] body), .inBlock 8, .code (sub [1, 1, 1, 1, 1, 1, 1, 1, 1, 0, 0, 0, 0, 1, 1] body), .inBlock 5, .inLoop (sub [1, 1, 1, 1, 1, 1, 1, 1, 1, 0, 0, 0] body), .inBlock 4, .code (sub [1, 1, 1, 1, 1, 1, 1, 1, 1, 1] body)]
def L7 (s0 : Option Addr) (s0n : Nat) (s0c : Nat) (s1 : Int) (s10 : Int) (s11 : Int) (H : Heap) (R : Ending → Heap → Prop) : Prop :=
  GoL Tryz.prog 77 168 L7t [0, 1, 10, 11] [(.slice s0 s0n s0c), (.int .i64 s1), (.int .i64 s10), (.int .i64 s11)] H R
noncomputable def L8t : List Item := [.code (sub [1, 1, 1, 1, 1, 1, 1, 1, 1, 0, 0, 0, 0, 1, 1] body), .inBlock 5, .inLoop (sub [1, 1, 1, 1, 1, 1, 1, 1, 1, 0, 0, 0] body), .inBlock 4, .code (sub [1, 1, 1, 1, 1, 1, 1, 1, 1, 1] body)]
def L8 (s0 : Option Addr) (s0n : Nat) (s0c : Nat) (s1 : Int) (s10 : Int) (s11 : Int) (H : Heap) (R : Ending → Heap → Prop) : Prop :=
  GoL Tryz.prog 77 168 L8t [0, 1, 10, 11] [(.slice s0 s0n s0c), (.int .i64 s1), (.int .i64 s10), (.int .i64 s11)] H R
noncomputable def L9t : List Item := [.code (sub [1, 1, 1, 1, 1, 1, 1, 1, 1, 0, 0, 0, 0, 1, 0, 0, 0, 1] body), .inLoop (sub [1, 1, 1, 1, 1, 1, 1, 1, 1, 0, 0, 0, 0, 1, 0, 0, 0] body), .inBlock 8, .code (sub [1, 1, 1, 1, 1, 1, 1, 1, 1, 0, 0, 0, 0, 1, 1] body), .inBlock 5, .inLoop (sub [1, 1, 1, 1, 1, 1, 1, 1, 1, 0, 0, 0] body), .inBlock 4, .code (sub [1, 1, 1, 1, 1, 1, 1, 1, 1, 1] body)]
def L9 (s0 : Option Addr) (s0n : Nat) (s0c : Nat) (s1 : Int) (s10 : Int) (s11 : Int) (H : Heap) (R : Ending → Heap → Prop) : Prop :=
  GoL Tryz.prog 77 168 L9t [0, 1, 10, 11] [(.slice s0 s0n s0c), (.int .i64 s1), (.int .i64 s10), (.int .i64 s11)] H R
noncomputable def L10t : List Item := [.code (sub [1, 1, 1, 1, 1, 1, 1, 1, 1, 0, 0, 0, 0, 0, 0, 0, 1] body), .inLoop (sub [1, 1, 1, 1, 1, 1, 1, 1, 1, 0, 0, 0, 0, 0, 0, 0] body), .inBlock 6, .code (sub [1, 1, 1, 1, 1, 1, 1, 1, 1, 0, 0, 0, 0, 1] body), .inBlock 5, .inLoop (sub [1, 1, 1, 1, 1, 1, 1, 1, 1, 0, 0, 0] body), .inBlock 4, .code (sub [1, 1, 1, 1, 1, 1, 1, 1, 1, 1] body)]
def L10 (s0 : Option Addr) (s0n : Nat) (s0c : Nat) (s1 : Int) (s10 : Int) (s11 : Int) (H : Heap) (R : Ending → Heap → Prop) : Prop :=
  GoL Tryz.prog 77 168 L10t [0, 1, 10, 11] [(.slice s0 s0n s0c), (.int .i64 s1), (.int .i64 s10), (.int .i64 s11)] H R
noncomputable def L11t : List Item := [.code (sub [1, 1, 1, 1, 0, 0, 0, 1] body), .inLoop (sub [1, 1, 1, 1, 0, 0, 0] body), .inBlock 2, .code (sub [1, 1, 1, 1, 1] body)]
def L11 (s0 : Option Addr) (s0n : Nat) (s0c : Nat) (s1 : Int) (s10 : Int) (s11 : Int) (H : Heap) (R : Ending → Heap → Prop) : Prop :=
  GoL Tryz.prog 77 168 L11t [0, 1, 10, 11] [(.slice s0 s0n s0c), (.int .i64 s1), (.int .i64 s10), (.int .i64 s11)] H R
noncomputable def L12t : List Item := [.code (sub [1, 1, 1, 0, 0, 0, 1] body), .inLoop (sub [1, 1, 1, 0, 0, 0] body), .inBlock 0, .code (sub [1, 1, 1, 1] body)]
def L12 (s0 : Option Addr) (s0n : Nat) (s0c : Nat) (s1 : Int) (s10 : Int) (s11 : Int) (H : Heap) (R : Ending → Heap → Prop) : Prop :=
  GoL Tryz.prog 77 168 L12t [0, 1, 10, 11] [(.slice s0 s0n s0c), (.int .i64 s1), (.int .i64 s10), (.int .i64 s11)] H R
def L0n (s0 : Option Addr) (s0n : Nat) (s0c : Nat) (s1 : Int) (s10 : Int) (s11 : Int) (H : Heap) (R : Ending → Heap → Prop) : Prop :=
  iteB (decide (s10 ≤ s11)) (
    idxD s0 s0n s10 fun a =>
    idxD s0 s0n s1 fun a1 =>
    ldInt H (Addr.add a (Int.toNat s10 * 1)) .i64 fun n =>
    ldInt H (Addr.add a1 (Int.toNat s1 * 1)) .i64 fun n1 =>
    callD Tryz.prog 75 [(.int .i64 n), (.int .i64 n1)] H (panK R) fun v H1 =>
    tBool v fun b =>
    iteB b (
      L12 s0 s0n s0c s1 s10 s11 H1 R) <|
    L1 s0 s0n s0c s1 s10 s11 H1 R) <|
  L1 s0 s0n s0c s1 s10 s11 H R
theorem L0_step {s0 : Option Addr} {s0n : Nat} {s0c : Nat} {s1 : Int} {s10 : Int} {s11 : Int} {H : Heap} {R : Ending → Heap → Prop} (h : L0n s0 s0n s0c s1 s10 s11 H R) : L0 s0 s0n s0c s1 s10 s11 H R :=
  goL_of_den (an := an) (fuel := 100000) (X := L0n s0 s0n s0c s1 s10 s11 H R) mixed fn (by kernel_rfl) (fun ρ0 => by kernel_rfl) h
def L1n (s0 : Option Addr) (s0n : Nat) (s0c : Nat) (s1 : Int) (s10 : Int) (s11 : Int) (H : Heap) (R : Ending → Heap → Prop) : Prop :=
  L2 s0 s0n s0c s1 s10 s11 H R
theorem L1_step {s0 : Option Addr} {s0n : Nat} {s0c : Nat} {s1 : Int} {s10 : Int} {s11 : Int} {H : Heap} {R : Ending → Heap → Prop} (h : L1n s0 s0n s0c s1 s10 s11 H R) : L1 s0 s0n s0c s1 s10 s11 H R :=
  goL_of_den (an := an) (fuel := 100000) (X := L1n s0 s0n s0c s1 s10 s11 H R) mixed fn (by kernel_rfl) (fun ρ0 => by kernel_rfl) h
def L2n (s0 : Option Addr) (s0n : Nat) (s0c : Nat) (s1 : Int) (s10 : Int) (s11 : Int) (H : Heap) (R : Ending → Heap → Prop) : Prop :=
  iteB (decide (s10 ≤ s11)) (
    idxD s0 s0n s11 fun a =>
    idxD s0 s0n s1 fun a1 =>
    ldInt H (Addr.add a (Int.toNat s11 * 1)) .i64 fun n =>
    ldInt H (Addr.add a1 (Int.toNat s1 * 1)) .i64 fun n1 =>
    callD Tryz.prog 75 [(.int .i64 n), (.int .i64 n1)] H (panK R) fun v H1 =>
    tBool v fun b =>
    iteB (!b) (
      L11 s0 s0n s0c s1 s10 s11 H1 R) <|
    L3 s0 s0n s0c s1 s10 s11 H1 R) <|
  L3 s0 s0n s0c s1 s10 s11 H R
theorem L2_step {s0 : Option Addr} {s0n : Nat} {s0c : Nat} {s1 : Int} {s10 : Int} {s11 : Int} {H : Heap} {R : Ending → Heap → Prop} (h : L2n s0 s0n s0c s1 s10 s11 H R) : L2 s0 s0n s0c s1 s10 s11 H R :=
  goL_of_den (an := an) (fuel := 100000) (X := L2n s0 s0n s0c s1 s10 s11 H R) mixed fn (by kernel_rfl) (fun ρ0 => by kernel_rfl) h
def L3n (s0 : Option Addr) (s0n : Nat) (s0c : Nat) (s1 : Int) (s10 : Int) (s11 : Int) (H : Heap) (R : Ending → Heap → Prop) : Prop :=
  iteB (decide (s10 > s11)) (
    idxD s0 s0n s1 fun a =>
    idxD s0 s0n s11 fun a1 =>
    ldInt H (Addr.add a (Int.toNat s1 * 1)) .i64 fun n =>
    ldInt H (Addr.add a1 (Int.toNat s11 * 1)) .i64 fun n1 =>
    idxD s0 s0n s11 fun a2 =>
    st1 H (Addr.add a2 (Int.toNat s11 * 1)) (.int .i64 n) fun H1 =>
    idxD s0 s0n s1 fun a3 =>
    st1 H1 (Addr.add a3 (Int.toNat s1 * 1)) (.int .i64 n1) fun H2 =>
    R (.returned (.tuple ⟨[(.int .i64 s11), (.bool true)]⟩)) H2) <|
  idxD s0 s0n s11 fun a4 =>
  idxD s0 s0n s10 fun a5 =>
  ldInt H (Addr.add a4 (Int.toNat s11 * 1)) .i64 fun n2 =>
  ldInt H (Addr.add a5 (Int.toNat s10 * 1)) .i64 fun n3 =>
  idxD s0 s0n s10 fun a6 =>
  st1 H (Addr.add a6 (Int.toNat s10 * 1)) (.int .i64 n2) fun H3 =>
  idxD s0 s0n s11 fun a7 =>
  st1 H3 (Addr.add a7 (Int.toNat s11 * 1)) (.int .i64 n3) fun H4 =>
  L4 s0 s0n s0c s1 (IntKind.wrap .i64 (s10 + (1 : Int))) (IntKind.wrap .i64 (s11 - (1 : Int))) H4 R
theorem L3_step {s0 : Option Addr} {s0n : Nat} {s0c : Nat} {s1 : Int} {s10 : Int} {s11 : Int} {H : Heap} {R : Ending → Heap → Prop} (h : L3n s0 s0n s0c s1 s10 s11 H R) : L3 s0 s0n s0c s1 s10 s11 H R :=
  goL_of_den (an := an) (fuel := 100000) (X := L3n s0 s0n s0c s1 s10 s11 H R) mixed fn (by kernel_rfl) (fun ρ0 => by kernel_rfl) h
def L4n (s0 : Option Addr) (s0n : Nat) (s0c : Nat) (s1 : Int) (s10 : Int) (s11 : Int) (H : Heap) (R : Ending → Heap → Prop) : Prop :=
  L5 s0 s0n s0c s1 s10 s11 H R
theorem L4_step {s0 : Option Addr} {s0n : Nat} {s0c : Nat} {s1 : Int} {s10 : Int} {s11 : Int} {H : Heap} {R : Ending → Heap → Prop} (h : L4n s0 s0n s0c s1 s10 s11 H R) : L4 s0 s0n s0c s1 s10 s11 H R :=
  goL_of_den (an := an) (fuel := 100000) (X := L4n s0 s0n s0c s1 s10 s11 H R) mixed fn (by kernel_rfl) (fun ρ0 => by kernel_rfl) h
def L5n (s0 : Option Addr) (s0n : Nat) (s0c : Nat) (s1 : Int) (s10 : Int) (s11 : Int) (H : Heap) (R : Ending → Heap → Prop) : Prop :=
  iteB (decide (s10 ≤ s11)) (
    idxD s0 s0n s10 fun a =>
    idxD s0 s0n s1 fun a1 =>
    ldInt H (Addr.add a (Int.toNat s10 * 1)) .i64 fun n =>
    ldInt H (Addr.add a1 (Int.toNat s1 * 1)) .i64 fun n1 =>
    callD Tryz.prog 75 [(.int .i64 n), (.int .i64 n1)] H (panK R) fun v H1 =>
    tBool v fun b =>
    iteB b (
      L10 s0 s0n s0c s1 s10 s11 H1 R) <|
    L6 s0 s0n s0c s1 s10 s11 H1 R) <|
  L6 s0 s0n s0c s1 s10 s11 H R
theorem L5_step {s0 : Option Addr} {s0n : Nat} {s0c : Nat} {s1 : Int} {s10 : Int} {s11 : Int} {H : Heap} {R : Ending → Heap → Prop} (h : L5n s0 s0n s0c s1 s10 s11 H R) : L5 s0 s0n s0c s1 s10 s11 H R :=
  goL_of_den (an := an) (fuel := 100000) (X := L5n s0 s0n s0c s1 s10 s11 H R) mixed fn (by kernel_rfl) (fun ρ0 => by kernel_rfl) h
def L6n (s0 : Option Addr) (s0n : Nat) (s0c : Nat) (s1 : Int) (s10 : Int) (s11 : Int) (H : Heap) (R : Ending → Heap → Prop) : Prop :=
  L7 s0 s0n s0c s1 s10 s11 H R
theorem L6_step {s0 : Option Addr} {s0n : Nat} {s0c : Nat} {s1 : Int} {s10 : Int} {s11 : Int} {H : Heap} {R : Ending → Heap → Prop} (h : L6n s0 s0n s0c s1 s10 s11 H R) : L6 s0 s0n s0c s1 s10 s11 H R :=
  goL_of_den (an := an) (fuel := 100000) (X := L6n s0 s0n s0c s1 s10 s11 H R) mixed fn (by kernel_rfl) (fun ρ0 => by kernel_rfl) h
def L7n (s0 : Option Addr) (s0n : Nat) (s0c : Nat) (s1 : Int) (s10 : Int) (s11 : Int) (H : Heap) (R : Ending → Heap → Prop) : Prop :=
  iteB (decide (s10 ≤ s11)) (
    idxD s0 s0n s11 fun a =>
    idxD s0 s0n s1 fun a1 =>
    ldInt H (Addr.add a (Int.toNat s11 * 1)) .i64 fun n =>
    ldInt H (Addr.add a1 (Int.toNat s1 * 1)) .i64 fun n1 =>
    callD Tryz.prog 75 [(.int .i64 n), (.int .i64 n1)] H (panK R) fun v H1 =>
    tBool v fun b =>
    iteB (!b) (
      L9 s0 s0n s0c s1 s10 s11 H1 R) <|
    L8 s0 s0n s0c s1 s10 s11 H1 R) <|
  L8 s0 s0n s0c s1 s10 s11 H R
theorem L7_step {s0 : Option Addr} {s0n : Nat} {s0c : Nat} {s1 : Int} {s10 : Int} {s11 : Int} {H : Heap} {R : Ending → Heap → Prop} (h : L7n s0 s0n s0c s1 s10 s11 H R) : L7 s0 s0n s0c s1 s10 s11 H R :=
  goL_of_den (an := an) (fuel := 100000) (X := L7n s0 s0n s0c s1 s10 s11 H R) mixed fn (by kernel_rfl) (fun ρ0 => by kernel_rfl) h
def L8n (s0 : Option Addr) (s0n : Nat) (s0c : Nat) (s1 : Int) (s10 : Int) (s11 : Int) (H : Heap) (R : Ending → Heap → Prop) : Prop :=
  iteB (decide (s10 > s11)) (
    idxD s0 s0n s1 fun a =>
    idxD s0 s0n s11 fun a1 =>
    ldInt H (Addr.add a (Int.toNat s1 * 1)) .i64 fun n =>
    ldInt H (Addr.add a1 (Int.toNat s11 * 1)) .i64 fun n1 =>
    idxD s0 s0n s11 fun a2 =>
    st1 H (Addr.add a2 (Int.toNat s11 * 1)) (.int .i64 n) fun H1 =>
    idxD s0 s0n s1 fun a3 =>
    st1 H1 (Addr.add a3 (Int.toNat s1 * 1)) (.int .i64 n1) fun H2 =>
    R (.returned (.tuple ⟨[(.int .i64 s11), (.bool false)]⟩)) H2) <|
  idxD s0 s0n s11 fun a4 =>
  idxD s0 s0n s10 fun a5 =>
  ldInt H (Addr.add a4 (Int.toNat s11 * 1)) .i64 fun n2 =>
  ldInt H (Addr.add a5 (Int.toNat s10 * 1)) .i64 fun n3 =>
  idxD s0 s0n s10 fun a6 =>
  st1 H (Addr.add a6 (Int.toNat s10 * 1)) (.int .i64 n2) fun H3 =>
  idxD s0 s0n s11 fun a7 =>
  st1 H3 (Addr.add a7 (Int.toNat s11 * 1)) (.int .i64 n3) fun H4 =>
  L4 s0 s0n s0c s1 (IntKind.wrap .i64 (s10 + (1 : Int))) (IntKind.wrap .i64 (s11 - (1 : Int))) H4 R
theorem L8_step {s0 : Option Addr} {s0n : Nat} {s0c : Nat} {s1 : Int} {s10 : Int} {s11 : Int} {H : Heap} {R : Ending → Heap → Prop} (h : L8n s0 s0n s0c s1 s10 s11 H R) : L8 s0 s0n s0c s1 s10 s11 H R :=
  goL_of_den (an := an) (fuel := 100000) (X := L8n s0 s0n s0c s1 s10 s11 H R) mixed fn (by kernel_rfl) (fun ρ0 => by kernel_rfl) h
def L9n (s0 : Option Addr) (s0n : Nat) (s0c : Nat) (s1 : Int) (s10 : Int) (s11 : Int) (H : Heap) (R : Ending → Heap → Prop) : Prop :=
  L7 s0 s0n s0c s1 s10 (IntKind.wrap .i64 (s11 - (1 : Int))) H R
theorem L9_step {s0 : Option Addr} {s0n : Nat} {s0c : Nat} {s1 : Int} {s10 : Int} {s11 : Int} {H : Heap} {R : Ending → Heap → Prop} (h : L9n s0 s0n s0c s1 s10 s11 H R) : L9 s0 s0n s0c s1 s10 s11 H R :=
  goL_of_den (an := an) (fuel := 100000) (X := L9n s0 s0n s0c s1 s10 s11 H R) mixed fn (by kernel_rfl) (fun ρ0 => by kernel_rfl) h
def L10n (s0 : Option Addr) (s0n : Nat) (s0c : Nat) (s1 : Int) (s10 : Int) (s11 : Int) (H : Heap) (R : Ending → Heap → Prop) : Prop :=
  L5 s0 s0n s0c s1 (IntKind.wrap .i64 (s10 + (1 : Int))) s11 H R
theorem L10_step {s0 : Option Addr} {s0n : Nat} {s0c : Nat} {s1 : Int} {s10 : Int} {s11 : Int} {H : Heap} {R : Ending → Heap → Prop} (h : L10n s0 s0n s0c s1 s10 s11 H R) : L10 s0 s0n s0c s1 s10 s11 H R :=
  goL_of_den (an := an) (fuel := 100000) (X := L10n s0 s0n s0c s1 s10 s11 H R) mixed fn (by kernel_rfl) (fun ρ0 => by kernel_rfl) h
def L11n (s0 : Option Addr) (s0n : Nat) (s0c : Nat) (s1 : Int) (s10 : Int) (s11 : Int) (H : Heap) (R : Ending → Heap → Prop) : Prop :=
  L2 s0 s0n s0c s1 s10 (IntKind.wrap .i64 (s11 - (1 : Int))) H R
theorem L11_step {s0 : Option Addr} {s0n : Nat} {s0c : Nat} {s1 : Int} {s10 : Int} {s11 : Int} {H : Heap} {R : Ending → Heap → Prop} (h : L11n s0 s0n s0c s1 s10 s11 H R) : L11 s0 s0n s0c s1 s10 s11 H R :=
  goL_of_den (an := an) (fuel := 100000) (X := L11n s0 s0n s0c s1 s10 s11 H R) mixed fn (by kernel_rfl) (fun ρ0 => by kernel_rfl) h
def L12n (s0 : Option Addr) (s0n : Nat) (s0c : Nat) (s1 : Int) (s10 : Int) (s11 : Int) (H : Heap) (R : Ending → Heap → Prop) : Prop :=
  L0 s0 s0n s0c s1 (IntKind.wrap .i64 (s10 + (1 : Int))) s11 H R
theorem L12_step {s0 : Option Addr} {s0n : Nat} {s0c : Nat} {s1 : Int} {s10 : Int} {s11 : Int} {H : Heap} {R : Ending → Heap → Prop} (h : L12n s0 s0n s0c s1 s10 s11 H R) : L12 s0 s0n s0c s1 s10 s11 H R :=
  goL_of_den (an := an) (fuel := 100000) (X := L12n s0 s0n s0c s1 s10 s11 H R) mixed fn (by kernel_rfl) (fun ρ0 => by kernel_rfl) h
def go (s0 : Option Addr) (s0n : Nat) (s0c : Nat) (s1 : Int) (s2 : Int) (s3 : Int) (H : Heap) (R : Ending → Heap → Prop) : Prop :=
  idxD s0 s0n s3 fun a =>
  idxD s0 s0n s1 fun a1 =>
  ldInt H (Addr.add a (Int.toNat s3 * 1)) .i64 fun n =>
  ldInt H (Addr.add a1 (Int.toNat s1 * 1)) .i64 fun n1 =>
  idxD s0 s0n s1 fun a2 =>
  st1 H (Addr.add a2 (Int.toNat s1 * 1)) (.int .i64 n) fun H1 =>
  idxD s0 s0n s3 fun a3 =>
  st1 H1 (Addr.add a3 (Int.toNat s3 * 1)) (.int .i64 n1) fun H2 =>
  L0 s0 s0n s0c s1 (IntKind.wrap .i64 (s1 + (1 : Int))) (IntKind.wrap .i64 (s2 - (1 : Int))) H2 R
theorem calls {s0 : Option Addr} {s0n : Nat} {s0c : Nat} {s1 : Int} {s2 : Int} {s3 : Int} {H : Heap} {R : Ending → Heap → Prop} (h : go s0 s0n s0c s1 s2 s3 H R) : CallsH Tryz.prog 77 ⟨[(.slice s0 s0n s0c), (.int .i64 s1), (.int .i64 s2), (.int .i64 s3)]⟩ H R :=
  callsH_of_den (an := an) (fuel := 100000) (X := go s0 s0n s0c s1 s2 s3 H R) (c := body) mixed fn (by kernel_rfl) (by kernel_rfl) (by kernel_rfl) ok (by kernel_rfl) h
end F77
/-! ### 90 "slices.siftDownOrdered[int64]" -/
namespace F90
def an : Ann := { kinds := [], taus := [(3, [[0, 1, 2, 3, 4, 5, 6, 7, 8, 9, 11, 12, 13, 14, 15, 16, 10, 17, 18, 19]]), (5, [[0, 1, 2, 3, 4, 6, 7, 8, 9, 10, 5, 11, 12, 13]]), (6, [[0, 1, 2, 3, 4, 5, 6, 7, 8, 9, 10, 11, 12, 14, 15, 16, 17, 18, 13, 19, 20, 21, 22, 23]])], pairs := [], lab := [(30000002, [0, 2, 3, 8]), (50000005, [0, 2, 3, 8, 9]), (40000006, [0, 2, 3, 8, 9])] }
noncomputable def body : Code := (Tryz.f90.body).getD .skip
theorem fn : Tryz.prog.funcs[90]? = some Tryz.f90 := by kernel_rfl
theorem ok : codeOk an 76 body = true := by kernel_rfl
noncomputable def L0t : List Item := [.code (sub [1, 0, 0] body), .inLoop (sub [1, 0, 0] body), .inBlock 0]
def L0 (s0 : Option Addr) (s0n : Nat) (s0c : Nat) (s2 : Int) (s3 : Int) (s8 : Int) (H : Heap) (R : Ending → Heap → Prop) : Prop :=
  GoL Tryz.prog 90 76 L0t [0, 2, 3, 8] [(.slice s0 s0n s0c), (.int .i64 s2), (.int .i64 s3), (.int .i64 s8)] H R
noncomputable def L1t : List Item := [.code (sub [1, 0, 0, 0, 1, 1, 0, 1, 0] body), .code (sub [1, 0, 0, 0, 1, 1, 1] body), .inBlock 1, .inLoop (sub [1, 0, 0] body), .inBlock 0]
def L1 (s0 : Option Addr) (s0n : Nat) (s0c : Nat) (s2 : Int) (s3 : Int) (s8 : Int) (s9 : Int) (H : Heap) (R : Ending → Heap → Prop) : Prop :=
  GoL Tryz.prog 90 76 L1t [0, 2, 3, 8, 9] [(.slice s0 s0n s0c), (.int .i64 s2), (.int .i64 s3), (.int .i64 s8), (.int .i64 s9)] H R
noncomputable def L2t : List Item := [.code (sub [1, 0, 0, 0, 1, 1, 1] body), .inBlock 1, .inLoop (sub [1, 0, 0] body), .inBlock 0]
def L2 (s0 : Option Addr) (s0n : Nat) (s0c : Nat) (s2 : Int) (s3 : Int) (s8 : Int) (s9 : Int) (H : Heap) (R : Ending → Heap → Prop) : Prop :=
  GoL Tryz.prog 90 76 L2t [0, 2, 3, 8, 9] [(.slice s0 s0n s0c), (.int .i64 s2), (.int .i64 s3), (.int .i64 s8), (.int .i64 s9)] H R
def L0n (s0 : Option Addr) (s0n : Nat) (s0c : Nat) (s2 : Int) (s3 : Int) (s8 : Int) (H : Heap) (R : Ending → Heap → Prop) : Prop :=
  iteB (decide ((IntKind.wrap .i64 ((IntKind.wrap .i64 ((2 : Int) * s8)) + (1 : Int))) ≥ s2)) (
    R (.returned (.tuple ⟨[]⟩)) H) <|
  iteB (decide ((IntKind.wrap .i64 ((IntKind.wrap .i64 ((IntKind.wrap .i64 ((2 : Int) * s8)) + (1 : Int))) + (1 : Int))) < s2)) (
    idxD s0 s0n (IntKind.wrap .i64 (s3 + (IntKind.wrap .i64 ((IntKind.wrap .i64 ((2 : Int) * s8)) + (1 : Int))))) fun a =>
    idxD s0 s0n (IntKind.wrap .i64 ((IntKind.wrap .i64 (s3 + (IntKind.wrap .i64 ((IntKind.wrap .i64 ((2 : Int) * s8)) + (1 : Int))))) + (1 : Int))) fun a1 =>
    ldInt H (Addr.add a (Int.toNat (IntKind.wrap .i64 (s3 + (IntKind.wrap .i64 ((IntKind.wrap .i64 ((2 : Int) * s8)) + (1 : Int))))) * 1)) .i64 fun n =>
    ldInt H (Addr.add a1 (Int.toNat (IntKind.wrap .i64 ((IntKind.wrap .i64 (s3 + (IntKind.wrap .i64 ((IntKind.wrap .i64 ((2 : Int) * s8)) + (1 : Int))))) + (1 : Int))) * 1)) .i64 fun n1 =>
    callD Tryz.prog 75 [(.int .i64 n), (.int .i64 n1)] H (panK R) fun v H1 =>
    tBool v fun b =>
    iteB b (
      L1 s0 s0n s0c s2 s3 s8 (IntKind.wrap .i64 ((IntKind.wrap .i64 ((2 : Int) * s8)) + (1 : Int))) H1 R) <|
    L2 s0 s0n s0c s2 s3 s8 (IntKind.wrap .i64 ((IntKind.wrap .i64 ((2 : Int) * s8)) + (1 : Int))) H1 R) <|
  L2 s0 s0n s0c s2 s3 s8 (IntKind.wrap .i64 ((IntKind.wrap .i64 ((2 : Int) * s8)) + (1 : Int))) H R
theorem L0_step {s0 : Option Addr} {s0n : Nat} {s0c : Nat} {s2 : Int} {s3 : Int} {s8 : Int} {H : Heap} {R : Ending → Heap → Prop} (h : L0n s0 s0n s0c s2 s3 s8 H R) : L0 s0 s0n s0c s2 s3 s8 H R :=
  goL_of_den (an := an) (fuel := 100000) (X := L0n s0 s0n s0c s2 s3 s8 H R) mixed fn (by kernel_rfl) (fun ρ0 => by kernel_rfl) h
def L1n (s0 : Option Addr) (s0n : Nat) (s0c : Nat) (s2 : Int) (s3 : Int) (s8 : Int) (s9 : Int) (H : Heap) (R : Ending → Heap → Prop) : Prop :=
  L2 s0 s0n s0c s2 s3 s8 (IntKind.wrap .i64 (s9 + (1 : Int))) H R
theorem L1_step {s0 : Option Addr} {s0n : Nat} {s0c : Nat} {s2 : Int} {s3 : Int} {s8 : Int} {s9 : Int} {H : Heap} {R : Ending → Heap → Prop} (h : L1n s0 s0n s0c s2 s3 s8 s9 H R) : L1 s0 s0n s0c s2 s3 s8 s9 H R :=
  goL_of_den (an := an) (fuel := 100000) (X := L1n s0 s0n s0c s2 s3 s8 s9 H R) mixed fn (by kernel_rfl) (fun ρ0 => by kernel_rfl) h
def L2n (s0 : Option Addr) (s0n : Nat) (s0c : Nat) (s2 : Int) (s3 : Int) (s8 : Int) (s9 : Int) (H : Heap) (R : Ending → Heap → Prop) : Prop :=
  idxD s0 s0n (IntKind.wrap .i64 (s3 + s8)) fun a =>
  idxD s0 s0n (IntKind.wrap .i64 (s3 + s9)) fun a1 =>
  ldInt H (Addr.add a (Int.toNat (IntKind.wrap .i64 (s3 + s8)) * 1)) .i64 fun n =>
  ldInt H (Addr.add a1 (Int.toNat (IntKind.wrap .i64 (s3 + s9)) * 1)) .i64 fun n1 =>
  callD Tryz.prog 75 [(.int .i64 n), (.int .i64 n1)] H (panK R) fun v H1 =>
  tBool v fun b =>
  iteB (!b) (
    R (.returned (.tuple ⟨[]⟩)) H1) <|
  idxD s0 s0n (IntKind.wrap .i64 (s3 + s9)) fun a2 =>
  idxD s0 s0n (IntKind.wrap .i64 (s3 + s8)) fun a3 =>
  ldInt H1 (Addr.add a2 (Int.toNat (IntKind.wrap .i64 (s3 + s9)) * 1)) .i64 fun n2 =>
  ldInt H1 (Addr.add a3 (Int.toNat (IntKind.wrap .i64 (s3 + s8)) * 1)) .i64 fun n3 =>
  idxD s0 s0n (IntKind.wrap .i64 (s3 + s8)) fun a4 =>
  st1 H1 (Addr.add a4 (Int.toNat (IntKind.wrap .i64 (s3 + s8)) * 1)) (.int .i64 n2) fun H2 =>
  idxD s0 s0n (IntKind.wrap .i64 (s3 + s9)) fun a5 =>
  st1 H2 (Addr.add a5 (Int.toNat (IntKind.wrap .i64 (s3 + s9)) * 1)) (.int .i64 n3) fun H3 =>
  L0 s0 s0n s0c s2 s3 s9 H3 R
theorem L2_step {s0 : Option Addr} {s0n : Nat} {s0c : Nat} {s2 : Int} {s3 : Int} {s8 : Int} {s9 : Int} {H : Heap} {R : Ending → Heap → Prop} (h : L2n s0 s0n s0c s2 s3 s8 s9 H R) : L2 s0 s0n s0c s2 s3 s8 s9 H R :=
  goL_of_den (an := an) (fuel := 100000) (X := L2n s0 s0n s0c s2 s3 s8 s9 H R) mixed fn (by kernel_rfl) (fun ρ0 => by kernel_rfl) h
def go (s0 : Option Addr) (s0n : Nat) (s0c : Nat) (s1 : Int) (s2 : Int) (s3 : Int) (H : Heap) (R : Ending → Heap → Prop) : Prop :=
  L0 s0 s0n s0c s2 s3 s1 H R
theorem calls {s0 : Option Addr} {s0n : Nat} {s0c : Nat} {s1 : Int} {s2 : Int} {s3 : Int} {H : Heap} {R : Ending → Heap → Prop} (h : go s0 s0n s0c s1 s2 s3 H R) : CallsH Tryz.prog 90 ⟨[(.slice s0 s0n s0c), (.int .i64 s1), (.int .i64 s2), (.int .i64 s3)]⟩ H R :=
  callsH_of_den (an := an) (fuel := 100000) (X := go s0 s0n s0c s1 s2 s3 H R) (c := body) mixed fn (by kernel_rfl) (by kernel_rfl) (by kernel_rfl) ok (by kernel_rfl) h
end F90
/-! ### 91 "slices.nextPowerOfTwo" -/
namespace F91
def an : Ann := { kinds := [], taus := [], pairs := [], lab := [] }
noncomputable def body : Code := (Tryz.f91.body).getD .skip
theorem fn : Tryz.prog.funcs[91]? = some Tryz.f91 := by kernel_rfl
theorem ok : codeOk an 7 body = true := by kernel_rfl
def go (length : Int) (H : Heap) (R : Ending → Heap → Prop) : Prop :=
  callD Tryz.prog 58 [(.int .u64 (IntKind.wrap .u64 length))] H (panK R) fun v H1 =>
  tInt v .i64 fun n =>
  shD n <|
  R (.returned (.int .u64 (shlZ .u64 (1 : Int) n))) H1
theorem calls {length : Int} {H : Heap} {R : Ending → Heap → Prop} (h : go length H R) : CallsH Tryz.prog 91 ⟨[(.int .i64 length)]⟩ H R :=
  callsH_of_den (an := an) (fuel := 100000) (X := go length H R) (c := body) mixed fn (by kernel_rfl) (by kernel_rfl) (by kernel_rfl) ok (by kernel_rfl) h
end F91
/-! ### 92 "(*slices.xorshift).Next" -/
namespace F92
def an : Ann := { kinds := [], taus := [(1, [[0, 1, 3, 4, 2, 5, 6, 7, 8, 9]]), (2, [[0, 1, 3, 4, 2, 5, 6, 7, 8, 9]]), (3, [[0, 1, 3, 4, 2, 5, 6, 7, 8, 9]])], pairs := [], lab := [] }
noncomputable def body : Code := (Tryz.f92.body).getD .skip
theorem fn : Tryz.prog.funcs[92]? = some Tryz.f92 := by kernel_rfl
theorem ok : codeOk an 33 body = true := by kernel_rfl
def go (r : Option Addr) (H : Heap) (R : Ending → Heap → Prop) : Prop :=
  nilD r fun a =>
  nilD r fun a1 =>
  ldInt H a .u64 fun n =>
  ldInt H a1 .u64 fun n1 =>
  shD (13 : Int) <|
  nilD r fun a2 =>
  st1 H a2 (.int .u64 (xorZ .u64 n (shlZ .u64 n1 (13 : Int)))) fun H1 =>
  nilD r fun a3 =>
  nilD r fun a4 =>
  ldInt H1 a3 .u64 fun n2 =>
  ldInt H1 a4 .u64 fun n3 =>
  shD (7 : Int) <|
  nilD r fun a5 =>
  st1 H1 a5 (.int .u64 (xorZ .u64 n2 (shrZ .u64 n3 (7 : Int)))) fun H2 =>
  nilD r fun a6 =>
  nilD r fun a7 =>
  ldInt H2 a6 .u64 fun n4 =>
  ldInt H2 a7 .u64 fun n5 =>
  shD (17 : Int) <|
  nilD r fun a8 =>
  st1 H2 a8 (.int .u64 (xorZ .u64 n4 (shlZ .u64 n5 (17 : Int)))) fun H3 =>
  nilD r fun a9 =>
  ldInt H3 a9 .u64 fun n6 =>
  R (.returned (.int .u64 n6)) H3
theorem calls {r : Option Addr} {H : Heap} {R : Ending → Heap → Prop} (h : go r H R) : CallsH Tryz.prog 92 ⟨[(.pointer r)]⟩ H R :=
  callsH_of_den (an := an) (fuel := 100000) (X := go r H R) (c := body) mixed fn (by kernel_rfl) (by kernel_rfl) (by kernel_rfl) ok (by kernel_rfl) h
end F92
/-! ### 93 "slices.medianAdjacentOrdered[int64]" -/
namespace F93
def an : Ann := { kinds := [], taus := [], pairs := [], lab := [] }
noncomputable def body : Code := (Tryz.f93.body).getD .skip
theorem fn : Tryz.prog.funcs[93]? = some Tryz.f93 := by kernel_rfl
theorem ok : codeOk an 15 body = true := by kernel_rfl
def go (data : Option Addr) (datan : Nat) (datac : Nat) (a : Int) (swaps : Option Addr) (H : Heap) (R : Ending → Heap → Prop) : Prop :=
  callD Tryz.prog 94 [(.slice data datan datac), (.int .i64 (IntKind.wrap .i64 (a - (1 : Int)))), (.int .i64 a), (.int .i64 (IntKind.wrap .i64 (a + (1 : Int)))), (.pointer swaps)] H (panK R) fun v H1 =>
  tInt v .i64 fun n =>
  R (.returned (.int .i64 n)) H1
theorem calls {data : Option Addr} {datan : Nat} {datac : Nat} {a : Int} {swaps : Option Addr} {H : Heap} {R : Ending → Heap → Prop} (h : go data datan datac a swaps H R) : CallsH Tryz.prog 93 ⟨[(.slice data datan datac), (.int .i64 a), (.pointer swaps)]⟩ H R :=
  callsH_of_den (an := an) (fuel := 100000) (X := go data datan datac a swaps H R) (c := body) mixed fn (by kernel_rfl) (by kernel_rfl) (by kernel_rfl) ok (by kernel_rfl) h
end F93
/-! ### 94 "slices.medianOrdered[int64]" -/
namespace F94
def an : Ann := { kinds := [], taus := [], pairs := [], lab := [] }
noncomputable def body : Code := (Tryz.f94.body).getD .skip
theorem fn : Tryz.prog.funcs[94]? = some Tryz.f94 := by kernel_rfl
theorem ok : codeOk an 36 body = true := by kernel_rfl
def go (data : Option Addr) (datan : Nat) (datac : Nat) (a : Int) (b : Int) (c : Int) (swaps : Option Addr) (H : Heap) (R : Ending → Heap → Prop) : Prop :=
  callD Tryz.prog 99 [(.slice data datan datac), (.int .i64 a), (.int .i64 b), (.pointer swaps)] H (panK R) fun v H1 =>
  tTup v fun l =>
  tCons l fun c1 l1 =>
  tInt c1 .i64 fun n =>
  tCons l1 fun c2 l2 =>
  tInt c2 .i64 fun n1 =>
  tNil l2 <|
  callD Tryz.prog 99 [(.slice data datan datac), (.int .i64 n1), (.int .i64 c), (.pointer swaps)] H1 (panK R) fun v1 H2 =>
  tTup v1 fun l3 =>
  tCons l3 fun c3 l4 =>
  tInt c3 .i64 fun n2 =>
  tCons l4 fun c4 l5 =>
  tInt c4 .i64 fun n3 =>
  tNil l5 <|
  callD Tryz.prog 99 [(.slice data datan datac), (.int .i64 n), (.int .i64 n2), (.pointer swaps)] H2 (panK R) fun v2 H3 =>
  tTup v2 fun l6 =>
  tCons l6 fun c5 l7 =>
  tInt c5 .i64 fun n4 =>
  tCons l7 fun c6 l8 =>
  tInt c6 .i64 fun n5 =>
  tNil l8 <|
  R (.returned (.int .i64 n5)) H3
theorem calls {data : Option Addr} {datan : Nat} {datac : Nat} {a : Int} {b : Int} {c : Int} {swaps : Option Addr} {H : Heap} {R : Ending → Heap → Prop} (h : go data datan datac a b c swaps H R) : CallsH Tryz.prog 94 ⟨[(.slice data datan datac), (.int .i64 a), (.int .i64 b), (.int .i64 c), (.pointer swaps)]⟩ H R :=
  callsH_of_den (an := an) (fuel := 100000) (X := go data datan datac a b c swaps H R) (c := body) mixed fn (by kernel_rfl) (by kernel_rfl) (by kernel_rfl) ok (by kernel_rfl) h
end F94
/-! ### 95 "cmp.isNaN[int64]" -/
namespace F95
def an : Ann := { kinds := [], taus := [], pairs := [], lab := [] }
noncomputable def body : Code := (Tryz.f95.body).getD .skip
theorem fn : Tryz.prog.funcs[95]? = some Tryz.f95 := by kernel_rfl
theorem ok : codeOk an 6 body = true := by kernel_rfl
def go (x : Int) (H : Heap) (R : Ending → Heap → Prop) : Prop :=
  R (.returned (.bool (x != x))) H
theorem calls {x : Int} {H : Heap} {R : Ending → Heap → Prop} (h : go x H R) : CallsH Tryz.prog 95 ⟨[(.int .i64 x)]⟩ H R :=
  callsH_of_den (an := an) (fuel := 100000) (X := go x H R) (c := body) mixed fn (by kernel_rfl) (by kernel_rfl) (by kernel_rfl) ok (by kernel_rfl) h
end F95
/-! ### 99 "slices.order2Ordered[int64]" -/
namespace F99
def an : Ann := { kinds := [], taus := [(1, [[0, 1, 2, 4, 5, 6, 3, 7, 8]])], pairs := [], lab := [] }
noncomputable def body : Code := (Tryz.f99.body).getD .skip
theorem fn : Tryz.prog.funcs[99]? = some Tryz.f99 := by kernel_rfl
theorem ok : codeOk an 28 body = true := by kernel_rfl
def go (data : Option Addr) (datan : Nat) (datac : Nat) (a : Int) (b : Int) (swaps : Option Addr) (H : Heap) (R : Ending → Heap → Prop) : Prop :=
  idxD data datan b fun a1 =>
  idxD data datan a fun a2 =>
  ldInt H (Addr.add a1 (Int.toNat b * 1)) .i64 fun n =>
  ldInt H (Addr.add a2 (Int.toNat a * 1)) .i64 fun n1 =>
  callD Tryz.prog 75 [(.int .i64 n), (.int .i64 n1)] H (panK R) fun v H1 =>
  tBool v fun b1 =>
  iteB b1 (
    nilD swaps fun a3 =>
    ldInt H1 a3 .i64 fun n2 =>
    nilD swaps fun a4 =>
    st1 H1 a4 (.int .i64 (IntKind.wrap .i64 (n2 + (1 : Int)))) fun H2 =>
    R (.returned (.tuple ⟨[(.int .i64 b), (.int .i64 a)]⟩)) H2) <|
  R (.returned (.tuple ⟨[(.int .i64 a), (.int .i64 b)]⟩)) H1
theorem calls {data : Option Addr} {datan : Nat} {datac : Nat} {a : Int} {b : Int} {swaps : Option Addr} {H : Heap} {R : Ending → Heap → Prop} (h : go data datan datac a b swaps H R) : CallsH Tryz.prog 99 ⟨[(.slice data datan datac), (.int .i64 a), (.int .i64 b), (.pointer swaps)]⟩ H R :=
  callsH_of_den (an := an) (fuel := 100000) (X := go data datan datac a b swaps H R) (c := body) mixed fn (by kernel_rfl) (by kernel_rfl) (by kernel_rfl) ok (by kernel_rfl) h
end F99
end Go.Proofs.YtobolifgehagfaaGreat
